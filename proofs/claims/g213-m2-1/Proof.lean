import JvmDerived
import JvmDerived.Pilot.@@N@@Statement
import JvmDerived.Pilot.@@N@@Code
set_option linter.unusedVariables false
set_option linter.unusedSimpArgs false
namespace Jvm.RoadKit
open Sem ClassFile Op Lib Jvm.Stand Jvm.Free Jvm.LawKit
section New
variable {p : Program} {l : Launch} {e : Env} {R : Room} {s : State} {m : MethodId} {args : Array Value} {below : List Frame} {meth : Method} {c : Code} {T : State} {locs : List Loc} {cells slots : Nat}
theorem retI (X : Stand p l e R s m args below meth c T locs cells slots) (hx : p.tables.exec = Jvm.exec) {pc : Nat} {Ls : Array Slot} {z : Int32} {rest : List Value} (hret : meth.sig.returnType = some .int) (hd : decode c.code pc = .ok (.ireturn, 1)) {fs : List Frame}
    (hl : ∀ (f : JFrame) (acts : List Action), f.method = m → f.locked = none → f.entered = [] → (doReturn e (T.setTop f) acts (some (.int z))).1 = T.setFrames fs) : Steps p.tables e below (T.setTop (mkF m pc Ls (.int z :: rest))) (T.setFrames fs) := by
  have hm' : T.vm.method? m = some meth := X.method'
  have hn : narrow .int (.int z) = .int z := rfl
  show Steps p.tables e below (T.setTop { method := m, pc := pc, locals := Ls, stack := _ :: rest, locked := none }) _
  jvm_step X.here [X.here.top, hx, hd, hm', hret, hn]
  first | (intro acts; rw [hl _ acts rfl rfl rfl]) | rw [hl _ _ rfl rfl rfl]
  exact Steps.refl _
end New
end Jvm.RoadKit
/- laws to paste: Road.backV, StrChars.lo8_inj (cut by pick.py; bodies as the Statement names them) -/
namespace Jvm.Pilot.@@N@@
namespace StrChars
open Jvm Sem ClassFile Op Lib Jvm.Stand Jvm.Free.XT Jvm.Free.ALB Jvm.Free.JM Jvm.Free
open Jvm.Lib.Cold (StaticIs)
/-- a char array whose places are chars -/
def Ch (a : Addr) (A : Cell) (U : State) : Prop := Arr .char a A U ∧ Typed .char A
theorem Ch.mv {a : Addr} {A : Cell} {U U' : State} (h : Ch a A U) (hal : U.vm.Alike U'.vm) (hh : U'.heap = U.heap) : Ch a A U' := ⟨h.1.mv hal hh, h.2⟩
theorem Ch.keep {a : Addr} {A : Cell} {U U' : State} (h : Ch a A U) (hal : U.vm.Alike U'.vm) (hk : U'.heap[a]? = some A) : Ch a A U' := ⟨h.1.keep hal hk, h.2⟩
/-- what place i of a char[]'s cell holds -/
def cv (A : Cell) (i : Nat) : Int32 := match A.slots[i]? with | some (.int x) => x | _ => 0
theorem Ch.get {a : Addr} {A : Cell} {U : State} (h : Ch a A U) {i : Nat} (hi : i < A.slots.size) : A.slots[i]? = some (.int (cv A i)) := by
  have e := Array.getElem?_eq_getElem hi
  have f := h.2 i _ e
  unfold cv; rw [e]
  generalize A.slots[i] = v at f
  cases v <;> simp [fits] at f ⊢
/-- the byte that i2b leaves of a char -/
def lo8 (x : Int32) : Int32 := x.toInt8.toInt32
theorem fits_lo8 (y : Int32) : fits .byte (.int (lo8 y)) = true := by
  have h1 := y.toInt8.le_toInt
  have h2 := y.toInt8.toInt_lt
  simp only [lo8, fits, Bool.and_eq_true, decide_eq_true_eq, Int32.le_iff_toInt_le, Int8.toInt_toInt32, show (-128 : Int32).toInt = -128 from by decide, show (127 : Int32).toInt = 127 from by decide]
  omega
/-- A' is A but that each place j of lo .. hi - 1 holds f j -/
def Laid (A A' : Cell) (lo hi : Nat) (f : Nat → Value) : Prop := A'.cls = A.cls ∧ A'.vm = A.vm ∧ A'.slots.size = A.slots.size ∧ ∀ i, A'.slots[i]? = if lo ≤ i ∧ i < hi then some (f i) else A.slots[i]?
theorem Laid.zero (A : Cell) (lo : Nat) (f : Nat → Value) : Laid A A lo (lo + 0) f := ⟨rfl, rfl, rfl, fun i => by rw [if_neg (by omega)]⟩
theorem Laid.step {A Ak : Cell} {lo k : Nat} {f : Nat → Value} {v : Value} (h : Laid A Ak lo k f) (hlo : lo ≤ k) (hk : k < Ak.slots.size) (hv : v = f k) : Laid A (Ak.setSlot k v) lo (k + 1) f := by
  refine ⟨h.1, h.2.1, by simpa [Cell.setSlot] using h.2.2.1, fun i => ?_⟩
  by_cases e : k = i
  · subst e; rw [Cell.slots_setSlot_self v hk, if_pos (by omega), hv]
  · rw [Cell.slots_setSlot_ne v e, h.2.2.2 i]
    by_cases q : lo ≤ i ∧ i < k
    · rw [if_pos q, if_pos (by omega)]
    · rw [if_neg q, if_neg (by omega)]
def U16 : String := "java/lang/StringUTF16"
namespace Cmp5
def yN : MethodName := ⟨"java/lang/StringUTF16", "compress", "([CI[BII)I"⟩
abbrev yB : ByteArray := jdk_52_method_21_code
theorem d0 : decode yB 0 = .ok (.iconst 0, 1) := by decide +kernel
theorem d1 : decode yB 1 = .ok (.istore 5, 2) := by decide +kernel
theorem d3 : decode yB 3 = .ok (.iload 5, 2) := by decide +kernel
theorem d5 : decode yB 5 = .ok (.iload 4, 2) := by decide +kernel
theorem d7 : decode yB 7 = .ok (.if_icmp (.ge) 37, 3) := by decide +kernel
theorem d10 : decode yB 10 = .ok (.aload_n 0, 1) := by decide +kernel
theorem d11 : decode yB 11 = .ok (.iload_n 1, 1) := by decide +kernel
theorem d12 : decode yB 12 = .ok (.caload, 1) := by decide +kernel
theorem d13 : decode yB 13 = .ok (.istore 6, 2) := by decide +kernel
theorem d15 : decode yB 15 = .ok (.iload 6, 2) := by decide +kernel
theorem d17 : decode yB 17 = .ok (.sipush 255, 3) := by decide +kernel
theorem d20 : decode yB 20 = .ok (.if_icmp (.le) 6, 3) := by decide +kernel
theorem d26 : decode yB 26 = .ok (.aload_n 2, 1) := by decide +kernel
theorem d27 : decode yB 27 = .ok (.iload_n 3, 1) := by decide +kernel
theorem d28 : decode yB 28 = .ok (.iload 6, 2) := by decide +kernel
theorem d30 : decode yB 30 = .ok (.i2b, 1) := by decide +kernel
theorem d31 : decode yB 31 = .ok (.bastore, 1) := by decide +kernel
theorem d32 : decode yB 32 = .ok (.iinc 1 1, 3) := by decide +kernel
theorem d35 : decode yB 35 = .ok (.iinc 3 1, 3) := by decide +kernel
theorem d38 : decode yB 38 = .ok (.iinc 5 1, 3) := by decide +kernel
theorem d41 : decode yB 41 = .ok (.goto (-38), 3) := by decide +kernel
theorem d44 : decode yB 44 = .ok (.iload 4, 2) := by decide +kernel
theorem d46 : decode yB 46 = .ok (.ireturn, 1) := by decide +kernel
def site : List Cond := []
def tab : Cond := tabOf yN yB 7 (some .int) site
def P (b : Addr) (A : Cell) (d : Addr) (B : Cell) (o q len : Nat) (args : Array Value) (s : State) : Prop := args = #[.ref b, .int (Int32.ofNat o), .ref d, .int (Int32.ofNat q), .int (Int32.ofNat len)] ∧ Ch b A s ∧ Arr .byte d B s ∧ b ≠ d ∧ o + len ≤ A.slots.size ∧ q + len ≤ B.slots.size ∧ ∀ i, i < len → ¬ 255 < cv A (o + i)
def E (b : Addr) (A : Cell) (d : Addr) (B : Cell) (o q len : Nat) (r : Option Value) (s u : State) : Prop := r = some (.int (Int32.ofNat len)) ∧ ∃ B', Put d B' s u ∧ Laid B B' q (q + len) (fun j => Value.int (lo8 (cv A (o + (j - q)))))
/-- no char of the range above 255: len; the places written hold each char's low byte -/
theorem law (l : Launch) (b : Addr) (A : Cell) (d : Addr) (B : Cell) (o q len : Nat) : Law l yN 5 5 0 0 yB 7 (some .int) site (P b A d B o q len) (E b A d B o q len) (copyLocs d q len) 0 0 := by
  refine Law.of_walk (plainFor_of_name (by decide +kernel)) (by decide +kernel) (by decide +kernel) (by decide) (fun _ _ h => by rw [h.1]; rfl) (fun _ U U' hal hh h => ⟨h.1, h.2.1.mv hal hh, h.2.2.1.mv hal hh, h.2.2.2⟩) (fun r U U' V V' h1 hal h2 h => ⟨h.1, h.2.elim fun B' q => ⟨B', q.1.mv h1 h2, q.2⟩⟩) ?_
  intro p e s m args below meth c s₁ X0 hexec hbytes hml hret hlk hnm hown hh0 W hP
  obtain ⟨rfl, hA, hB, hne, l1, l2, hp⟩ := hP
  have c1 : Steps p.tables e below (s₁.setTop (entryFrame m #[.ref b, .int (Int32.ofNat o), .ref d, .int (Int32.ofNat q), .int (Int32.ofNat len)] 7)) (s₁.setTop (mkF m 0 #[.val (.ref b), .val (.int (Int32.ofNat o)), .val (.ref d), .val (.int (Int32.ofNat q)), .val (.int (Int32.ofNat len)), .unset, .unset] [])) := entry rfl
  have hA0 := hA.1.mv X0.warmed.alike hh0
  have hB0 := hB.mv X0.warmed.alike hh0
  have a31 := hA.1.2.2.2
  have c2 : Steps p.tables e below (s₁.setTop (entryFrame m #[.ref b, .int (Int32.ofNat o), .ref d, .int (Int32.ofNat q), .int (Int32.ofNat len)] 7)) (s₁.setTop (mkF m 3 #[.val (.ref b), .val (.int (Int32.ofNat o)), .val (.ref d), .val (.int (Int32.ofNat q)), .val (.int (Int32.ofNat len)), .val (.int 0), .unset] [])) := c1.trans (by
    refine iconstV X0.here hexec rfl 0 (hb hbytes d0) (by decide) ?_
    refine XS.istore X0.here hexec rfl (hb hbytes d1) rfl rfl ?_
    exact Steps.refl _)
  have loop : ∀ (r i : Nat), i + r = len → ∀ (z : Slot), (z = .unset ∨ ∃ w, z = .val w ∧ w.category = 1) → ∀ (Tl : State) (Bk : Cell), Stand p l e { frames := 0, locals := 0, cells := 0, slots := 0 } s m #[.ref b, .int (Int32.ofNat o), .ref d, .int (Int32.ofNat q), .int (Int32.ofNat len)] below meth c Tl ([] ++ copyLocs d q i) 0 0 → Put d Bk s₁ Tl → Laid B Bk q (q + i) (fun j => Value.int (lo8 (cv A (o + (j - q))))) →
      Steps p.tables e below (s₁.setTop (entryFrame m #[.ref b, .int (Int32.ofNat o), .ref d, .int (Int32.ofNat q), .int (Int32.ofNat len)] 7)) (Tl.setTop (mkF m 3 #[.val (.ref b), .val (.int (Int32.ofNat (o + i))), .val (.ref d), .val (.int (Int32.ofNat (q + i))), .val (.int (Int32.ofNat len)), .val (.int (Int32.ofNat i)), z] [])) → ∃ (T' : State) (B' : Cell) (z' : Slot), Stand p l e { frames := 0, locals := 0, cells := 0, slots := 0 } s m #[.ref b, .int (Int32.ofNat o), .ref d, .int (Int32.ofNat q), .int (Int32.ofNat len)] below meth c T' ([] ++ copyLocs d q len) 0 0 ∧ Put d B' s₁ T' ∧ Laid B B' q (q + len) (fun j => Value.int (lo8 (cv A (o + (j - q))))) ∧
      Steps p.tables e below (s₁.setTop (entryFrame m #[.ref b, .int (Int32.ofNat o), .ref d, .int (Int32.ofNat q), .int (Int32.ofNat len)] 7)) (T'.setTop (mkF m 3 #[.val (.ref b), .val (.int (Int32.ofNat (o + len))), .val (.ref d), .val (.int (Int32.ofNat (q + len))), .val (.int (Int32.ofNat len)), .val (.int (Int32.ofNat len)), z'] [])) := by
    intro r
    induction r with
    | zero =>
      intro i hi z hz Tl Bk Xl pl fl cl
      have hil : i = len := by omega
      rw [hil] at Xl fl cl
      exact ⟨Tl, Bk, z, Xl, pl, fl, cl⟩
    | succ r ih =>
      intro i hi z hz Tl Bk Xl pl fl cl
      have all := X0.warmed.alike.symm.trans Xl.warmed.alike
      have hAl := hA0.keep all (pl.other hne hA0.1)
      have hBk := hB0.like all pl.1 fl.1 fl.2.1 fl.2.2.1
      have hlt : q + i < Bk.slots.size := by rw [fl.2.2.1]; omega
      have c3 : Steps p.tables e below (s₁.setTop (entryFrame m #[.ref b, .int (Int32.ofNat o), .ref d, .int (Int32.ofNat q), .int (Int32.ofNat len)] 7)) (Tl.setTop (mkF m 12 #[.val (.ref b), .val (.int (Int32.ofNat (o + i))), .val (.ref d), .val (.int (Int32.ofNat (q + i))), .val (.int (Int32.ofNat len)), .val (.int (Int32.ofNat i)), z] [.int (Int32.ofNat (o + i)), .ref b])) := cl.trans (by
        refine XS.iload Xl.here hexec rfl (hb hbytes d3) rfl ?_
        refine XS.iload Xl.here hexec rfl (hb hbytes d5) rfl ?_
        refine XS.icmpNo Xl.here hexec rfl (hb hbytes d7) rfl (ii_ge_f (lt32 (by omega) (by omega))) ?_
        refine XS.aloadN Xl.here hexec rfl (hb hbytes d10) rfl rfl ?_
        refine XS.iloadN Xl.here hexec rfl (hb hbytes d11) rfl ?_
        exact Steps.refl _)
      have c4 : Steps p.tables e below (s₁.setTop (entryFrame m #[.ref b, .int (Int32.ofNat o), .ref d, .int (Int32.ofNat q), .int (Int32.ofNat len)] 7)) (Tl.setTop (mkF m 13 #[.val (.ref b), .val (.int (Int32.ofNat (o + i))), .val (.ref d), .val (.int (Int32.ofNat (q + i))), .val (.int (Int32.ofNat len)), .val (.int (Int32.ofNat i)), z] [.int (cv A (o + i))])) := c3.trans (by
        refine Xl.aget hexec hAl rfl (hA.get (i := o + i) (by omega)) rfl rfl (hb hbytes d12) ?_
        exact Steps.refl _)
      have c5 : Steps p.tables e below (s₁.setTop (entryFrame m #[.ref b, .int (Int32.ofNat o), .ref d, .int (Int32.ofNat q), .int (Int32.ofNat len)] 7)) (Tl.setTop (mkF m 15 #[.val (.ref b), .val (.int (Int32.ofNat (o + i))), .val (.ref d), .val (.int (Int32.ofNat (q + i))), .val (.int (Int32.ofNat len)), .val (.int (Int32.ofNat i)), .val (.int (cv A (o + i)))] [])) := c4.trans (by
        refine XS.istoreS Xl.here hexec rfl (hb hbytes d13) rfl rfl hz ?_
        exact Steps.refl _)
      have c6 : Steps p.tables e below (s₁.setTop (entryFrame m #[.ref b, .int (Int32.ofNat o), .ref d, .int (Int32.ofNat q), .int (Int32.ofNat len)] 7)) (Tl.setTop (mkF m 31 #[.val (.ref b), .val (.int (Int32.ofNat (o + i))), .val (.ref d), .val (.int (Int32.ofNat (q + i))), .val (.int (Int32.ofNat len)), .val (.int (Int32.ofNat i)), .val (.int (cv A (o + i)))] [.int (lo8 (cv A (o + i))), .int (Int32.ofNat (q + i)), .ref d])) := c5.trans (by
        refine XS.iload Xl.here hexec rfl (hb hbytes d15) rfl ?_
        refine sipushV Xl.here hexec rfl 255 (hb hbytes d17) (by decide) ?_
        refine XS.icmpYes Xl.here hexec rfl (pc0 := 20) rfl (hb hbytes d20) rfl (ii_le_t (hp i (by omega))) (by decide) rfl ?_
        refine XS.aloadN Xl.here hexec rfl (hb hbytes d26) rfl rfl ?_
        refine XS.iloadN Xl.here hexec rfl (hb hbytes d27) rfl ?_
        refine XS.iload Xl.here hexec rfl (hb hbytes d28) rfl ?_
        refine i2b Xl.here hexec rfl (hb hbytes d30) rfl ?_
        exact Steps.refl _)
      obtain ⟨T7, X7, p7, st7⟩ := Xl.aput hexec hBk rfl hlt rfl (fits_lo8 (cv A (o + i))) (g := (mkF m 31 #[.val (.ref b), .val (.int (Int32.ofNat (o + i))), .val (.ref d), .val (.int (Int32.ofNat (q + i))), .val (.int (Int32.ofNat len)), .val (.int (Int32.ofNat i)), .val (.int (cv A (o + i)))] [.int (lo8 (cv A (o + i))), .int (Int32.ofNat (q + i)), .ref d])) rfl (rest := []) rfl (hb hbytes d31)
      have c8 : Steps p.tables e below (s₁.setTop (entryFrame m #[.ref b, .int (Int32.ofNat o), .ref d, .int (Int32.ofNat q), .int (Int32.ofNat len)] 7)) (T7.setTop (mkF m 32 #[.val (.ref b), .val (.int (Int32.ofNat (o + i))), .val (.ref d), .val (.int (Int32.ofNat (q + i))), .val (.int (Int32.ofNat len)), .val (.int (Int32.ofNat i)), .val (.int (cv A (o + i)))] [])) := c6.trans (st7 _ (Steps.refl _))
      have c9 : Steps p.tables e below (s₁.setTop (entryFrame m #[.ref b, .int (Int32.ofNat o), .ref d, .int (Int32.ofNat q), .int (Int32.ofNat len)] 7)) (T7.setTop (mkF m 3 #[.val (.ref b), .val (.int (Int32.ofNat (o + i) + 1)), .val (.ref d), .val (.int (Int32.ofNat (q + i) + 1)), .val (.int (Int32.ofNat len)), .val (.int (Int32.ofNat i + 1)), .val (.int (cv A (o + i)))] [])) := c8.trans (by
        refine iincV X7.here hexec rfl 1 (hb hbytes d32) (by decide) rfl rfl ?_
        refine iincV X7.here hexec rfl 1 (hb hbytes d35) (by decide) rfl rfl ?_
        refine iincV X7.here hexec rfl 1 (hb hbytes d38) (by decide) rfl rfl ?_
        refine XS.goto X7.here hexec rfl (pc0 := 41) rfl (hb hbytes d41) (by decide) rfl ?_
        exact Steps.refl _)
      have c10 : Steps p.tables e below (s₁.setTop (entryFrame m #[.ref b, .int (Int32.ofNat o), .ref d, .int (Int32.ofNat q), .int (Int32.ofNat len)] 7)) (T7.setTop (mkF m 3 #[.val (.ref b), .val (.int (Int32.ofNat (o + (i + 1)))), .val (.ref d), .val (.int (Int32.ofNat (q + (i + 1)))), .val (.int (Int32.ofNat len)), .val (.int (Int32.ofNat (i + 1))), .val (.int (cv A (o + i)))] [])) := by
        have := c9
        rw [succ32, succ32, succ32] at this
        exact this
      exact ih (i + 1) (by omega) _ (Or.inr ⟨_, rfl, rfl⟩) T7 _ (by rw [copyLocs_step, ← List.append_assoc]; exact X7) (pl.trans p7) (fl.step (by omega) hlt (by simp)) c10
  obtain ⟨T9, B9, z9, X9, p9, f9, g9⟩ := loop len 0 (by omega) .unset (Or.inl rfl) s₁ B (by simpa [copyLocs] using X0) ⟨hB0.1, fun _ _ => rfl, rfl⟩ (Laid.zero _ _ _) c2
  have c11 : Steps p.tables e below (s₁.setTop (entryFrame m #[.ref b, .int (Int32.ofNat o), .ref d, .int (Int32.ofNat q), .int (Int32.ofNat len)] 7)) (T9.setTop (mkF m 46 #[.val (.ref b), .val (.int (Int32.ofNat (o + len))), .val (.ref d), .val (.int (Int32.ofNat (q + len))), .val (.int (Int32.ofNat len)), .val (.int (Int32.ofNat len)), z9] [.int (Int32.ofNat len)])) := g9.trans (by
    refine XS.iload X9.here hexec rfl (hb hbytes d3) rfl ?_
    refine XS.iload X9.here hexec rfl (hb hbytes d5) rfl ?_
    refine XS.icmpYes X9.here hexec rfl (pc0 := 7) rfl (hb hbytes d7) rfl (ii_ge_t (nlt32 (by omega) (Nat.le_refl _))) (by decide) rfl ?_
    refine XS.iload X9.here hexec rfl (hb hbytes d44) rfl ?_
    exact Steps.refl _)
  exact ⟨T9, some (.int (Int32.ofNat len)), _, _, _, X9, by simp, rfl, rfl, (fun h => by cases h), ⟨rfl, B9, p9.from hh0, f9⟩, fun fs hl => c11.trans (X9.ireturnOut hexec hret rfl (Or.inl rfl) (hb hbytes d46) hl)⟩
end Cmp5
namespace Cmp3
def yN : MethodName := ⟨"java/lang/StringUTF16", "compress", "([CII)[B"⟩
abbrev yB : ByteArray := jdk_52_method_16_code
theorem d0 : decode yB 0 = .ok (.iload_n 2, 1) := by decide +kernel
theorem d1 : decode yB 1 = .ok (.newarray .byte, 2) := by decide +kernel
theorem d3 : decode yB 3 = .ok (.astore_n 3, 1) := by decide +kernel
theorem d4 : decode yB 4 = .ok (.aload_n 0, 1) := by decide +kernel
theorem d5 : decode yB 5 = .ok (.iload_n 1, 1) := by decide +kernel
theorem d6 : decode yB 6 = .ok (.aload_n 3, 1) := by decide +kernel
theorem d7 : decode yB 7 = .ok (.iconst 0, 1) := by decide +kernel
theorem d8 : decode yB 8 = .ok (.iload_n 2, 1) := by decide +kernel
theorem d9 : decode yB 9 = .ok (.invokestatic 115, 3) := by decide +kernel
theorem d12 : decode yB 12 = .ok (.istore 4, 2) := by decide +kernel
theorem d14 : decode yB 14 = .ok (.iload 4, 2) := by decide +kernel
theorem d16 : decode yB 16 = .ok (.iload_n 2, 1) := by decide +kernel
theorem d17 : decode yB 17 = .ok (.if_icmp (.eq) 40, 3) := by decide +kernel
theorem d57 : decode yB 57 = .ok (.aload_n 3, 1) := by decide +kernel
theorem d58 : decode yB 58 = .ok (.areturn, 1) := by decide +kernel
def site : List Cond := [.arrayClass .byte, Cmp5.tab] ++ staticW U16 115 Cmp5.yN
def tab : Cond := tabOf yN yB 6 (some (.array .byte)) site
def P (b : Addr) (A : Cell) (o len : Nat) (args : Array Value) (s : State) : Prop := args = #[.ref b, .int (Int32.ofNat o), .int (Int32.ofNat len)] ∧ Ch b A s ∧ o + len ≤ A.slots.size ∧ len ≤ 536870912 ∧ ∀ i, i < len → ¬ 255 < cv A (o + i)
def E (b : Addr) (A : Cell) (o len : Nat) (r : Option Value) (s u : State) : Prop := NewArr .byte "[B" len (fun j => .int (lo8 (cv A (o + j)))) r s u ∧ u.heap.size = s.heap.size + 1
/-- no char of the range above 255: a new byte[] of their low bytes -/
theorem law (l : Launch) (b : Addr) (A : Cell) (o len : Nat) : Law l yN 3 3 1 18 yB 6 (some (.array .byte)) site (P b A o len) (E b A o len) [] 1 len := by
  refine Law.of_walk (plainFor_of_name (by decide +kernel)) (by decide +kernel) (by decide +kernel) (by decide) (fun _ _ h => by rw [h.1]; rfl) (fun _ U U' hal hh h => ⟨h.1, h.2.1.mv hal hh, h.2.2⟩) (fun r U U' V V' h1 hal h2 h => ⟨NewArr.mv r U U' V V' h1 hal h2 h.1, by rw [h1, h2]; exact h.2⟩) ?_
  intro p e s m args below meth c s₁ X0 hexec hbytes hml hret hlk hnm hown hh0 W hP
  obtain ⟨rfl, hA, l1, l2, hp⟩ := hP
  have a31 := hA.1.2.2.2
  have c1 : Steps p.tables e below (s₁.setTop (entryFrame m #[.ref b, .int (Int32.ofNat o), .int (Int32.ofNat len)] 6)) (s₁.setTop (mkF m 0 #[.val (.ref b), .val (.int (Int32.ofNat o)), .val (.int (Int32.ofNat len)), .unset, .unset, .unset] [])) := entry rfl
  have c2 : Steps p.tables e below (s₁.setTop (entryFrame m #[.ref b, .int (Int32.ofNat o), .int (Int32.ofNat len)] 6)) (s₁.setTop (mkF m 1 #[.val (.ref b), .val (.int (Int32.ofNat o)), .val (.int (Int32.ofNat len)), .unset, .unset, .unset] [.int (Int32.ofNat len)])) := c1.trans (by
    refine XS.iloadN X0.here hexec rfl (hb hbytes d0) rfl ?_
    exact Steps.refl _)
  obtain ⟨T3, B3, X3, ba3, bs3, bv3, bh3, bf3, st3⟩ := X0.anew hexec (atype := .byte) (wk W (.arrayClass .byte)) rfl (by show len * 1 ≤ _; omega) (by omega) (g := (mkF m 1 #[.val (.ref b), .val (.int (Int32.ofNat o)), .val (.int (Int32.ofNat len)), .unset, .unset, .unset] [.int (Int32.ofNat len)])) rfl (hb hbytes d1) (rest := []) rfl (Nat.le_refl _) (by show 0 + len ≤ len; omega)
  rw [hh0] at ba3 st3
  have kp3 : XT.Kept s T3 := (XT.Kept.of_eq hh0).push bh3
  have hA3 := hA.keep X3.warmed.alike (kp3 _ _ hA.1.1)
  have hne : b ≠ s.heap.size := hA.1.ne
  have c4 : Steps p.tables e below (s₁.setTop (entryFrame m #[.ref b, .int (Int32.ofNat o), .int (Int32.ofNat len)] 6)) (T3.setTop (mkF m 3 #[.val (.ref b), .val (.int (Int32.ofNat o)), .val (.int (Int32.ofNat len)), .unset, .unset, .unset] [.ref s.heap.size])) := c2.trans (st3 _ (Steps.refl _))
  have c5 : Steps p.tables e below (s₁.setTop (entryFrame m #[.ref b, .int (Int32.ofNat o), .int (Int32.ofNat len)] 6)) (T3.setTop (mkF m 9 #[.val (.ref b), .val (.int (Int32.ofNat o)), .val (.int (Int32.ofNat len)), .val (.ref s.heap.size), .unset, .unset] [.int (Int32.ofNat len), .int 0, .ref s.heap.size, .int (Int32.ofNat o), .ref b])) := c4.trans (by
    refine XS.astoreN X3.here hexec rfl (hb hbytes d3) rfl rfl rfl ?_
    refine XS.aloadN X3.here hexec rfl (hb hbytes d4) rfl rfl ?_
    refine XS.iloadN X3.here hexec rfl (hb hbytes d5) rfl ?_
    refine XS.aloadN X3.here hexec rfl (hb hbytes d6) rfl rfl ?_
    refine iconstV X3.here hexec rfl 0 (hb hbytes d7) (by decide) ?_
    refine XS.iloadN X3.here hexec rfl (hb hbytes d8) rfl ?_
    exact Steps.refl _)
  obtain ⟨v6, T6, X6, E6, g6⟩ := X3.callS hexec (Cmp5.law l b A s.heap.size B3 o 0 len) hown (wks W (staticW U16 115 Cmp5.yN)) (wk W Cmp5.tab) (W := 0) (Nat.le_of_ble_eq_true rfl) (Nat.le_of_ble_eq_true rfl) (Nat.le_refl _) (by show 0 + len + 0 ≤ len; omega) (g := (mkF m 9 #[.val (.ref b), .val (.int (Int32.ofNat o)), .val (.int (Int32.ofNat len)), .val (.ref s.heap.size), .unset, .unset] [.int (Int32.ofNat len), .int (Int32.ofNat 0), .ref s.heap.size, .int (Int32.ofNat o), .ref b])) rfl (by rw [hml]; rfl) c5 (argsL := [.ref b, .int (Int32.ofNat o), .ref s.heap.size, .int (Int32.ofNat 0), .int (Int32.ofNat len)]) (rest := []) rfl rfl (by show 2 * 0 + 0 ≤ _; decide) (hb hbytes d9) (⟨rfl, hA3, ba3, hne, l1, by rw [bs3]; simp, hp⟩)
  obtain ⟨rfl, B6, p6, f6⟩ := E6
  have c7 : Steps p.tables e below (s₁.setTop (entryFrame m #[.ref b, .int (Int32.ofNat o), .int (Int32.ofNat len)] 6)) (T6.setTop (mkF m 12 #[.val (.ref b), .val (.int (Int32.ofNat o)), .val (.int (Int32.ofNat len)), .val (.ref s.heap.size), .unset, .unset] [.int (Int32.ofNat len)])) := g6
  have c8 : Steps p.tables e below (s₁.setTop (entryFrame m #[.ref b, .int (Int32.ofNat o), .int (Int32.ofNat len)] 6)) (T6.setTop (mkF m 58 #[.val (.ref b), .val (.int (Int32.ofNat o)), .val (.int (Int32.ofNat len)), .val (.ref s.heap.size), .val (.int (Int32.ofNat len)), .unset] [.ref s.heap.size])) := c7.trans (by
    refine XS.istore X6.here hexec rfl (hb hbytes d12) rfl rfl ?_
    refine XS.iload X6.here hexec rfl (hb hbytes d14) rfl ?_
    refine XS.iloadN X6.here hexec rfl (hb hbytes d16) rfl ?_
    refine XS.icmpYes X6.here hexec rfl (pc0 := 17) rfl (hb hbytes d17) rfl (ii_eq_t rfl) (by decide) rfl ?_
    refine XS.aloadN X6.here hexec rfl (hb hbytes d57) rfl rfl ?_
    exact Steps.refl _)
  have X8 := X6.wide (L' := []) (cells' := 1) (slots' := len) (fun x hx hlt => by
    simp only [List.nil_append, copyLocs, List.mem_map, List.mem_range] at hx
    obtain ⟨i, -, rfl⟩ := hx
    exact absurd hlt (Nat.lt_irrefl _)) (Nat.le_refl _) (by omega)
  exact ⟨T6, some (.ref s.heap.size), _, _, _, X8, rfl, rfl, rfl, (fun h => by cases h), ⟨⟨rfl, B6, ba3.like (X3.warmed.alike.symm.trans X6.warmed.alike) p6.1 f6.1 f6.2.1 f6.2.2.1, f6.2.1.trans bv3, by rw [X6.warmed.alike.findClass, f6.1]; exact bf3, by rw [f6.2.2.1, bs3]; simp, fun j hj => by rw [f6.2.2.2 j, if_pos (by omega)]; rfl, kp3.put p6 (Nat.le_refl _)⟩, by rw [p6.2.2, bh3, hh0]; simp⟩, fun fs hl => c8.trans (X8.areturnOut hexec rfl hret rfl (hb hbytes d58) hl)⟩
end Cmp3
namespace CodL
def yN : MethodName := ⟨"java/lang/StringUTF16", "coderFromArrayLen", "([BI)B"⟩
abbrev yB : ByteArray := jdk_52_method_15_code
theorem d0 : decode yB 0 = .ok (.iload_n 1, 1) := by decide +kernel
theorem d1 : decode yB 1 = .ok (.aload_n 0, 1) := by decide +kernel
theorem d2 : decode yB 2 = .ok (.arraylength, 1) := by decide +kernel
theorem d3 : decode yB 3 = .ok (.isub, 1) := by decide +kernel
theorem d4 : decode yB 4 = .ok (.bipush 31, 2) := by decide +kernel
theorem d6 : decode yB 6 = .ok (.iushr, 1) := by decide +kernel
theorem d7 : decode yB 7 = .ok (.i2b, 1) := by decide +kernel
theorem d8 : decode yB 8 = .ok (.ireturn, 1) := by decide +kernel
def site : List Cond := []
def tab : Cond := tabOf yN yB 2 (some .byte) site
def P (d : Addr) (B : Cell) (args : Array Value) (s : State) : Prop := args = #[.ref d, .int (Int32.ofNat B.slots.size)] ∧ Arr .byte d B s
def E (r : Option Value) (s u : State) : Prop := XT.PureE (some (.int 0)) r s u
/-- an array as long as the number of chars: LATIN1 -/
theorem law (l : Launch) (d : Addr) (B : Cell) : Law l yN 2 2 0 0 yB 2 (some .byte) site (P d B) E [] 0 0 := by
  refine Law.of_walk (plainFor_of_name (by decide +kernel)) (by decide +kernel) (by decide +kernel) (by decide) (fun _ _ h => by rw [h.1]; rfl) (fun _ U U' hal hh h => ⟨h.1, h.2.mv hal hh⟩) (fun r U U' V V' h1 hal h2 h => XT.PureE.mv r U U' V V' h1 hal h2 h) ?_
  intro p e s m args below meth c s₁ X0 hexec hbytes hml hret hlk hnm hown hh0 W hP
  obtain ⟨rfl, hB⟩ := hP
  have hB0 := hB.mv X0.warmed.alike hh0
  have c1 : Steps p.tables e below (s₁.setTop (entryFrame m #[.ref d, .int (Int32.ofNat B.slots.size)] 2)) (s₁.setTop (mkF m 0 #[.val (.ref d), .val (.int (Int32.ofNat B.slots.size))] [])) := entry rfl
  have c2 : Steps p.tables e below (s₁.setTop (entryFrame m #[.ref d, .int (Int32.ofNat B.slots.size)] 2)) (s₁.setTop (mkF m 2 #[.val (.ref d), .val (.int (Int32.ofNat B.slots.size))] [.ref d, .int (Int32.ofNat B.slots.size)])) := c1.trans (by
    refine XS.iloadN X0.here hexec rfl (hb hbytes d0) rfl ?_
    refine XS.aloadN X0.here hexec rfl (hb hbytes d1) rfl rfl ?_
    exact Steps.refl _)
  have c3 : Steps p.tables e below (s₁.setTop (entryFrame m #[.ref d, .int (Int32.ofNat B.slots.size)] 2)) (s₁.setTop (mkF m 8 #[.val (.ref d), .val (.int (Int32.ofNat B.slots.size))] [.int (lo8 (ushr (Int32.ofNat B.slots.size - Int32.ofNat B.slots.size) 31))])) := c2.trans (by
    refine X0.alen hexec hB0 rfl rfl (hb hbytes d2) ?_
    refine XS.isub X0.here hexec rfl (hb hbytes d3) rfl ?_
    refine bipushV X0.here hexec rfl 31 (hb hbytes d4) (by decide) ?_
    refine iushr X0.here hexec rfl (hb hbytes d6) rfl ?_
    refine i2b X0.here hexec rfl (hb hbytes d7) rfl ?_
    exact Steps.refl _)
  have e0 : lo8 (ushr (Int32.ofNat B.slots.size - Int32.ofNat B.slots.size) 31) = 0 := by rw [Int32.sub_self]; decide
  rw [e0] at c3
  exact ⟨s₁, some (.int 0), _, _, _, X0, rfl, rfl, rfl, (fun h => by cases h), ⟨rfl, hh0⟩, fun fs hl => c3.trans (X0.ireturnOut hexec hret rfl (Or.inr (Or.inr (Or.inl rfl))) (hb hbytes d8) hl)⟩
end CodL
/-- the String at a is Latin-1 over a new byte[] (the heap's one new cell): the low bytes of the len chars of A from o on; every cell but a is kept -/
def Got (a : Addr) (D : Cell) (fV fC : Field) (A : Cell) (o len : Nat) (r : Option Value) (s u : State) : Prop := r = none ∧ ∃ D' V : Cell, Blank "java/lang/String" a D' u ∧ Same D D' [fV.slot, fC.slot] ∧ D'.slots[fV.slot]? = some (.ref s.heap.size) ∧ D'.slots[fC.slot]? = some (.int 0) ∧ Arr .byte s.heap.size V u ∧ V.vm = .none ∧ u.vm.findClass "[B" = some V.cls ∧ V.slots.size = len ∧ (∀ j, j < len → V.slots[j]? = some (.int (lo8 (cv A (o + j))))) ∧ (∀ (y : Addr) (c : Cell), y ≠ a → s.heap[y]? = some c → u.heap[y]? = some c) ∧ u.heap.size = s.heap.size + 1
theorem Got.mv {a : Addr} {D A : Cell} {fV fC : Field} {o len : Nat} : ∀ r (U U' V V' : State), U'.heap = U.heap → V.vm.Alike V'.vm → V'.heap = V.heap → Got a D fV fC A o len r U V → Got a D fV fC A o len r U' V' :=
  fun r U U' V V' h1 hal h2 ⟨e0, D', X, a1, a2, a3, a4, a5, a6, a7, a8, a9, a10, a11⟩ => ⟨e0, D', X, a1.mv hal h2, a2, by rw [h1]; exact a3, a4, by rw [h1]; exact a5.mv hal h2, a6, by rw [hal.findClass]; exact a7, a8, a9, by rw [h1, h2]; exact a10, by rw [h1, h2]; exact a11⟩
namespace New4
def yN : MethodName := ⟨"java/lang/String", "<init>", "([CIILjava/lang/Void;)V"⟩
abbrev yB : ByteArray := jdk_42_method_149_code
theorem d0 : decode yB 0 = .ok (.aload_n 0, 1) := by decide +kernel
theorem d1 : decode yB 1 = .ok (.invokespecial 1, 3) := by decide +kernel
theorem d4 : decode yB 4 = .ok (.iload_n 3, 1) := by decide +kernel
theorem d5 : decode yB 5 = .ok (.ifCond (.ne) 22, 3) := by decide +kernel
theorem d27 : decode yB 27 = .ok (.getstatic 38, 3) := by decide +kernel
theorem d30 : decode yB 30 = .ok (.ifCond (.eq) 28, 3) := by decide +kernel
theorem d33 : decode yB 33 = .ok (.aload_n 1, 1) := by decide +kernel
theorem d34 : decode yB 34 = .ok (.iload_n 2, 1) := by decide +kernel
theorem d35 : decode yB 35 = .ok (.iload_n 3, 1) := by decide +kernel
theorem d36 : decode yB 36 = .ok (.invokestatic 177, 3) := by decide +kernel
theorem d39 : decode yB 39 = .ok (.astore 5, 2) := by decide +kernel
theorem d41 : decode yB 41 = .ok (.aload_n 0, 1) := by decide +kernel
theorem d42 : decode yB 42 = .ok (.aload 5, 2) := by decide +kernel
theorem d44 : decode yB 44 = .ok (.iload_n 3, 1) := by decide +kernel
theorem d45 : decode yB 45 = .ok (.invokestatic 47, 3) := by decide +kernel
theorem d48 : decode yB 48 = .ok (.putfield 15, 3) := by decide +kernel
theorem d51 : decode yB 51 = .ok (.aload_n 0, 1) := by decide +kernel
theorem d52 : decode yB 52 = .ok (.aload 5, 2) := by decide +kernel
theorem d54 : decode yB 54 = .ok (.putfield 9, 3) := by decide +kernel
theorem d57 : decode yB 57 = .ok (.return_, 1) := by decide +kernel
def site : List Cond := [.fieldLink "java/lang/String" 38 "java/lang/String" "COMPACT_STRINGS" "Z", Cmp3.tab, CodL.tab, .laysFinal "java/lang/String" "java/lang/String" "value" "[B", .fieldLink "java/lang/String" 9 "java/lang/String" "value" "[B", .laysFinal "java/lang/String" "java/lang/String" "coder" "B", .fieldLink "java/lang/String" 15 "java/lang/String" "coder" "B"] ++ objW "java/lang/String" 1 ++ staticW "java/lang/String" 177 Cmp3.yN ++ staticW "java/lang/String" 47 CodL.yN
def tab : Cond := tabOf yN yB 6 none site
def P (a : Addr) (D : Cell) (fV fC : Field) (b : Addr) (A : Cell) (z : Int32) (o len : Nat) (args : Array Value) (s : State) : Prop := args = #[.ref a, .ref b, .int (Int32.ofNat o), .int (Int32.ofNat len), .null] ∧ Blank "java/lang/String" a D s ∧ Found "java/lang/String" "value" "[B" fV s ∧ Found "java/lang/String" "coder" "B" fC s ∧ Ch b A s ∧ StaticIs s "java/lang/String" "COMPACT_STRINGS" "Z" (.int z) ∧ ¬ z = 0 ∧ 0 < len ∧ o + len ≤ A.slots.size ∧ len ≤ 536870912 ∧ ∀ i, i < len → ¬ 255 < cv A (o + i)
def E (a : Addr) (D : Cell) (fV fC : Field) (A : Cell) (o len : Nat) (r : Option Value) (s u : State) : Prop := Got a D fV fC A o len r s u
/-- len > 0, no char of the range above 255: a Latin-1 String of their low bytes -/
theorem law (l : Launch) (a : Addr) (D : Cell) (fV fC : Field) (b : Addr) (A : Cell) (z : Int32) (o len : Nat) : Law l yN 5 4 2 35 yB 6 none site (P a D fV fC b A z o len) (E a D fV fC A o len) [⟨a, fC.slot⟩, ⟨a, fV.slot⟩] 1 len := by
  refine Law.of_walk (plainFor_of_name (by decide +kernel)) (by decide +kernel) (by decide +kernel) (by decide) (fun _ _ h => by rw [h.1]; rfl) (fun _ U U' hal hh h => ⟨h.1, h.2.1.mv hal hh, h.2.2.1.al hal, h.2.2.2.1.al hal, h.2.2.2.2.1.mv hal hh, h.2.2.2.2.2.1.there hal hh, h.2.2.2.2.2.2⟩) (fun r U U' V V' h1 hal h2 h => Got.mv r U U' V V' h1 hal h2 h) ?_
  intro p e s m args below meth c s₁ X0 hexec hbytes hml hret hlk hnm hown hh0 W hP
  obtain ⟨rfl, hB, f1, f2, hA, s1, hz, l0, l1, l2, hp⟩ := hP
  have a31 := hA.1.2.2.2
  have c1 : Steps p.tables e below (s₁.setTop (entryFrame m #[.ref a, .ref b, .int (Int32.ofNat o), .int (Int32.ofNat len), .null] 6)) (s₁.setTop (mkF m 0 #[.val (.ref a), .val (.ref b), .val (.int (Int32.ofNat o)), .val (.int (Int32.ofNat len)), .val .null, .unset] [])) := entry rfl
  have c2 : Steps p.tables e below (s₁.setTop (entryFrame m #[.ref a, .ref b, .int (Int32.ofNat o), .int (Int32.ofNat len), .null] 6)) (s₁.setTop (mkF m 1 #[.val (.ref a), .val (.ref b), .val (.int (Int32.ofNat o)), .val (.int (Int32.ofNat len)), .val .null, .unset] [.ref a])) := c1.trans (by
    refine XS.aloadN X0.here hexec rfl (hb hbytes d0) rfl rfl ?_
    exact Steps.refl _)
  obtain ⟨T3, X3, q3, st3⟩ := X0.oinit hexec hown (wks W (objW "java/lang/String" 1)) (g := (mkF m 1 #[.val (.ref a), .val (.ref b), .val (.int (Int32.ofNat o)), .val (.int (Int32.ofNat len)), .val .null, .unset] [.ref a])) rfl (by rw [hml]; rfl) (rest := []) rfl (hb hbytes d1) (W := 0) (by show 2 * 0 + 0 ≤ _; decide) (Nat.le_of_ble_eq_true rfl) (Nat.le_of_ble_eq_true rfl)
  have hh3 := q3.trans hh0
  have c4 : Steps p.tables e below (s₁.setTop (entryFrame m #[.ref a, .ref b, .int (Int32.ofNat o), .int (Int32.ofNat len), .null] 6)) (T3.setTop (mkF m 27 #[.val (.ref a), .val (.ref b), .val (.int (Int32.ofNat o)), .val (.int (Int32.ofNat len)), .val .null, .unset] [])) := (c2.trans (st3 _ (Steps.refl _))).trans (by
    refine XS.iloadN X3.here hexec rfl (hb hbytes d4) rfl ?_
    refine XS.ifYes X3.here hexec rfl (pc0 := 5) rfl (hb hbytes d5) rfl (i0_ne_t (nz32 (by omega) l0)) (by decide) rfl ?_
    exact Steps.refl _)
  obtain ⟨T5, X5, q5, st5⟩ := X3.sget hexec hown (wk W (.fieldLink "java/lang/String" 38 "java/lang/String" "COMPACT_STRINGS" "Z")) s1 (fun _ _ h => by rw [hh3]; exact h) (g := (mkF m 27 #[.val (.ref a), .val (.ref b), .val (.int (Int32.ofNat o)), .val (.int (Int32.ofNat len)), .val .null, .unset] [])) rfl (hb hbytes d27)
  have hh5 := q5.trans hh3
  have c6 : Steps p.tables e below (s₁.setTop (entryFrame m #[.ref a, .ref b, .int (Int32.ofNat o), .int (Int32.ofNat len), .null] 6)) (T5.setTop (mkF m 30 #[.val (.ref a), .val (.ref b), .val (.int (Int32.ofNat o)), .val (.int (Int32.ofNat len)), .val .null, .unset] [.int z])) := c4.trans (st5 _ (Steps.refl _))
  have c7 : Steps p.tables e below (s₁.setTop (entryFrame m #[.ref a, .ref b, .int (Int32.ofNat o), .int (Int32.ofNat len), .null] 6)) (T5.setTop (mkF m 36 #[.val (.ref a), .val (.ref b), .val (.int (Int32.ofNat o)), .val (.int (Int32.ofNat len)), .val .null, .unset] [.int (Int32.ofNat len), .int (Int32.ofNat o), .ref b])) := c6.trans (by
    refine XS.ifNo X5.here hexec rfl (hb hbytes d30) rfl (i0_eq_f hz) ?_
    refine XS.aloadN X5.here hexec rfl (hb hbytes d33) rfl rfl ?_
    refine XS.iloadN X5.here hexec rfl (hb hbytes d34) rfl ?_
    refine XS.iloadN X5.here hexec rfl (hb hbytes d35) rfl ?_
    exact Steps.refl _)
  obtain ⟨v8, T8, X8, E8, g8⟩ := X5.callS hexec (Cmp3.law l b A o len) hown (wks W (staticW "java/lang/String" 177 Cmp3.yN)) (wk W Cmp3.tab) (W := 0) (Nat.le_of_ble_eq_true rfl) (Nat.le_of_ble_eq_true rfl) (Nat.le_refl _) (by show 0 + len ≤ len; omega) (g := (mkF m 36 #[.val (.ref a), .val (.ref b), .val (.int (Int32.ofNat o)), .val (.int (Int32.ofNat len)), .val .null, .unset] [.int (Int32.ofNat len), .int (Int32.ofNat o), .ref b])) rfl (by rw [hml]; rfl) c7 (argsL := [.ref b, .int (Int32.ofNat o), .int (Int32.ofNat len)]) (rest := []) rfl rfl (by show 2 * 0 + 0 ≤ _; decide) (hb hbytes d36) (⟨rfl, hA.mv X5.warmed.alike hh5, l1, l2, hp⟩)
  obtain ⟨e8, z8⟩ := E8
  obtain ⟨rfl, N, n1, n2, n3, n4, n5, n6⟩ := NewArr.mv _ T5 s _ _ hh5.symm (Vm.Alike.refl _) rfl e8
  rw [hh5] at z8
  have hB1 := hB.keep X8.warmed.alike (n6 _ _ hB.1)
  have hne : s.heap.size ≠ a := (Nat.ne_of_lt (Array.getElem?_eq_some_iff.mp hB.1).1).symm
  have c9 : Steps p.tables e below (s₁.setTop (entryFrame m #[.ref a, .ref b, .int (Int32.ofNat o), .int (Int32.ofNat len), .null] 6)) (T8.setTop (mkF m 39 #[.val (.ref a), .val (.ref b), .val (.int (Int32.ofNat o)), .val (.int (Int32.ofNat len)), .val .null, .unset] [.ref s.heap.size])) := g8
  have c10 : Steps p.tables e below (s₁.setTop (entryFrame m #[.ref a, .ref b, .int (Int32.ofNat o), .int (Int32.ofNat len), .null] 6)) (T8.setTop (mkF m 45 #[.val (.ref a), .val (.ref b), .val (.int (Int32.ofNat o)), .val (.int (Int32.ofNat len)), .val .null, .val (.ref s.heap.size)] [.int (Int32.ofNat N.slots.size), .ref s.heap.size, .ref a])) := by
    have hc : Steps p.tables e below (s₁.setTop (entryFrame m #[.ref a, .ref b, .int (Int32.ofNat o), .int (Int32.ofNat len), .null] 6)) (T8.setTop (mkF m 45 #[.val (.ref a), .val (.ref b), .val (.int (Int32.ofNat o)), .val (.int (Int32.ofNat len)), .val .null, .val (.ref s.heap.size)] [.int (Int32.ofNat len), .ref s.heap.size, .ref a])) := c9.trans (by
      refine XS.astore X8.here hexec rfl (hb hbytes d39) rfl rfl rfl ?_
      refine XS.aloadN X8.here hexec rfl (hb hbytes d41) rfl rfl ?_
      refine XS.aload X8.here hexec rfl (hb hbytes d42) rfl rfl ?_
      refine XS.iloadN X8.here hexec rfl (hb hbytes d44) rfl ?_
      exact Steps.refl _)
    rw [n4]; exact hc
  obtain ⟨v11, T11, X11, E11, g11⟩ := X8.callS hexec (CodL.law l s.heap.size N) hown (wks W (staticW "java/lang/String" 47 CodL.yN)) (wk W CodL.tab) (W := 1) (Nat.le_of_ble_eq_true rfl) (Nat.le_of_ble_eq_true rfl) (Nat.le_refl _) (by show 0 + len + 0 ≤ len; omega) (g := (mkF m 45 #[.val (.ref a), .val (.ref b), .val (.int (Int32.ofNat o)), .val (.int (Int32.ofNat len)), .val .null, .val (.ref s.heap.size)] [.int (Int32.ofNat N.slots.size), .ref s.heap.size, .ref a])) rfl (by rw [hml]; rfl) c10 (argsL := [.ref s.heap.size, .int (Int32.ofNat N.slots.size)]) (rest := [.ref a]) rfl rfl (by show 2 * 0 + (1 + 0) ≤ _; decide) (hb hbytes d45) (⟨rfl, n1⟩)
  obtain ⟨rfl, q11⟩ := E11
  have hB11 := hB1.mv (X8.warmed.alike.symm.trans X11.warmed.alike) q11
  have c12 : Steps p.tables e below (s₁.setTop (entryFrame m #[.ref a, .ref b, .int (Int32.ofNat o), .int (Int32.ofNat len), .null] 6)) (T11.setTop (mkF m 48 #[.val (.ref a), .val (.ref b), .val (.int (Int32.ofNat o)), .val (.int (Int32.ofNat len)), .val .null, .val (.ref s.heap.size)] [.int 0, .ref a])) := g11
  obtain ⟨T13, X13, p13, bl13, sl13, st13⟩ := X11.finit hexec hown (wk W (.fieldLink "java/lang/String" 15 "java/lang/String" "coder" "B")) (Or.inr ⟨_, (wk W (.laysFinal "java/lang/String" "java/lang/String" "coder" "B"))⟩) (Or.inl ⟨rfl, hnm⟩) f2 (Or.inl rfl) hB11 (t := .byte) (by decide +kernel) rfl (g := (mkF m 48 #[.val (.ref a), .val (.ref b), .val (.int (Int32.ofNat o)), .val (.int (Int32.ofNat len)), .val .null, .val (.ref s.heap.size)] [.int 0, .ref a])) rfl (rest := []) rfl (hb hbytes d48)
  have c14 : Steps p.tables e below (s₁.setTop (entryFrame m #[.ref a, .ref b, .int (Int32.ofNat o), .int (Int32.ofNat len), .null] 6)) (T13.setTop (mkF m 54 #[.val (.ref a), .val (.ref b), .val (.int (Int32.ofNat o)), .val (.int (Int32.ofNat len)), .val .null, .val (.ref s.heap.size)] [.ref s.heap.size, .ref a])) := (c12.trans (st13 _ (Steps.refl _))).trans (by
    refine XS.aloadN X13.here hexec rfl (hb hbytes d51) rfl rfl ?_
    refine XS.aload X13.here hexec rfl (hb hbytes d52) rfl rfl ?_
    exact Steps.refl _)
  obtain ⟨T15, X15, p15, bl15, sl15, st15⟩ := X13.finit hexec hown (wk W (.fieldLink "java/lang/String" 9 "java/lang/String" "value" "[B")) (Or.inr ⟨_, (wk W (.laysFinal "java/lang/String" "java/lang/String" "value" "[B"))⟩) (Or.inl ⟨rfl, hnm⟩) f1 (Or.inl rfl) bl13 (t := (.array .byte)) (by decide +kernel) rfl (g := (mkF m 54 #[.val (.ref a), .val (.ref b), .val (.int (Int32.ofNat o)), .val (.int (Int32.ofNat len)), .val .null, .val (.ref s.heap.size)] [.ref s.heap.size, .ref a])) rfl (rest := []) rfl (hb hbytes d54)
  have c16 : Steps p.tables e below (s₁.setTop (entryFrame m #[.ref a, .ref b, .int (Int32.ofNat o), .int (Int32.ofNat len), .null] 6)) (T15.setTop (mkF m 57 #[.val (.ref a), .val (.ref b), .val (.int (Int32.ofNat o)), .val (.int (Int32.ofNat len)), .val .null, .val (.ref s.heap.size)] [])) := c14.trans (st15 _ (Steps.refl _))
  have ap := apart (Or.inr ⟨_, (wk W (.laysFinal "java/lang/String" "java/lang/String" "value" "[B"))⟩) (Or.inr ⟨_, (wk W (.laysFinal "java/lang/String" "java/lang/String" "coder" "B"))⟩) f1 f2 (t₁ := .array .byte) (t₂ := .byte) (by decide +kernel) (by decide +kernel) (by decide)
  have al := X8.warmed.alike.symm.trans X15.warmed.alike
  have n7 : T11.heap[s.heap.size]? = some N := by rw [q11]; exact n1.1
  exact ⟨T15, none, _, _, _, X15, by simp, rfl, by omega, (fun _ => rfl), ⟨rfl, _, N, bl15, ((Same.refl D _).set _ (by simp)).set _ (by simp), sl15, (Cell.slots_setSlot_ne _ ap).trans sl13, n1.keep al (p15.other hne (p13.other hne n7)), n2, by rw [al.findClass]; exact n3, n4, n5, fun y c h1 h2 => p15.other h1 (p13.other h1 (by rw [q11]; exact n6 y c h2)), by rw [p15.2.2, p13.2.2, q11]; exact z8⟩, fun fs hl => c16.trans (X15.returnOut hexec hret (hb hbytes d57) hl)⟩
end New4
namespace New1
def yN : MethodName := ⟨"java/lang/String", "<init>", "([C)V"⟩
abbrev yB : ByteArray := jdk_42_method_3_code
theorem d0 : decode yB 0 = .ok (.aload_n 0, 1) := by decide +kernel
theorem d1 : decode yB 1 = .ok (.aload_n 1, 1) := by decide +kernel
theorem d2 : decode yB 2 = .ok (.iconst 0, 1) := by decide +kernel
theorem d3 : decode yB 3 = .ok (.aload_n 1, 1) := by decide +kernel
theorem d4 : decode yB 4 = .ok (.arraylength, 1) := by decide +kernel
theorem d5 : decode yB 5 = .ok (.aconst_null, 1) := by decide +kernel
theorem d6 : decode yB 6 = .ok (.invokespecial 27, 3) := by decide +kernel
theorem d9 : decode yB 9 = .ok (.return_, 1) := by decide +kernel
def site : List Cond := [New4.tab] ++ initW "java/lang/String" 27 New4.yN
def tab : Cond := tabOf yN yB 2 none site
def P (a : Addr) (D : Cell) (fV fC : Field) (b : Addr) (A : Cell) (z : Int32) (args : Array Value) (s : State) : Prop := args = #[.ref a, .ref b] ∧ Blank "java/lang/String" a D s ∧ Found "java/lang/String" "value" "[B" fV s ∧ Found "java/lang/String" "coder" "B" fC s ∧ Ch b A s ∧ StaticIs s "java/lang/String" "COMPACT_STRINGS" "Z" (.int z) ∧ ¬ z = 0 ∧ 0 < A.slots.size ∧ A.slots.size ≤ 536870912 ∧ ∀ i, i < A.slots.size → ¬ 255 < cv A i
def E (a : Addr) (D : Cell) (fV fC : Field) (A : Cell) (r : Option Value) (s u : State) : Prop := Got a D fV fC A 0 A.slots.size r s u
/-- new String(chars), not empty, no char above 255: a Latin-1 String of their low bytes -/
theorem law (l : Launch) (a : Addr) (D : Cell) (fV fC : Field) (b : Addr) (A : Cell) (z : Int32) : Law l yN 2 1 3 52 yB 2 none site (P a D fV fC b A z) (E a D fV fC A) [⟨a, fC.slot⟩, ⟨a, fV.slot⟩] 1 A.slots.size := by
  refine Law.of_walk (plainFor_of_name (by decide +kernel)) (by decide +kernel) (by decide +kernel) (by decide) (fun _ _ h => by rw [h.1]; rfl) (fun _ U U' hal hh h => ⟨h.1, h.2.1.mv hal hh, h.2.2.1.al hal, h.2.2.2.1.al hal, h.2.2.2.2.1.mv hal hh, h.2.2.2.2.2.1.there hal hh, h.2.2.2.2.2.2⟩) (fun r U U' V V' h1 hal h2 h => Got.mv r U U' V V' h1 hal h2 h) ?_
  intro p e s m args below meth c s₁ X0 hexec hbytes hml hret hlk hnm hown hh0 W hP
  obtain ⟨rfl, hB, f1, f2, hA, s1, hz, l0, l2, hp⟩ := hP
  have c1 : Steps p.tables e below (s₁.setTop (entryFrame m #[.ref a, .ref b] 2)) (s₁.setTop (mkF m 0 #[.val (.ref a), .val (.ref b)] [])) := entry rfl
  have c2 : Steps p.tables e below (s₁.setTop (entryFrame m #[.ref a, .ref b] 2)) (s₁.setTop (mkF m 6 #[.val (.ref a), .val (.ref b)] [.null, .int (Int32.ofNat A.slots.size), .int 0, .ref b, .ref a])) := c1.trans (by
    refine XS.aloadN X0.here hexec rfl (hb hbytes d0) rfl rfl ?_
    refine XS.aloadN X0.here hexec rfl (hb hbytes d1) rfl rfl ?_
    refine iconstV X0.here hexec rfl 0 (hb hbytes d2) (by decide) ?_
    refine XS.aloadN X0.here hexec rfl (hb hbytes d3) rfl rfl ?_
    refine X0.alen hexec (hA.1.mv X0.warmed.alike hh0) rfl rfl (hb hbytes d4) ?_
    refine XS.aconstNull X0.here hexec rfl (hb hbytes d5) ?_
    exact Steps.refl _)
  obtain ⟨v3, T3, X3, E3, g3⟩ := X0.callN hexec (New4.law l a D fV fC b A z 0 A.slots.size) rfl hown (wks W (initW "java/lang/String" 27 New4.yN)) (W New4.tab (by simp only [site, List.mem_cons, List.mem_append, true_or, or_true])) (W := 0) (Nat.le_of_ble_eq_true rfl) (Nat.le_of_ble_eq_true rfl) (Nat.le_refl _) (by show 0 + A.slots.size ≤ A.slots.size; omega) (g := (mkF m 6 #[.val (.ref a), .val (.ref b)] [.null, .int (Int32.ofNat A.slots.size), .int (Int32.ofNat 0), .ref b, .ref a])) rfl (by rw [hml]; rfl) c2 (argsL := [.ref b, .int (Int32.ofNat 0), .int (Int32.ofNat A.slots.size), .null]) (rest := []) rfl rfl (by show 2 * 0 + 0 ≤ _; decide) (hb hbytes d6) (⟨rfl, hB.mv X0.warmed.alike hh0, f1.al X0.warmed.alike, f2.al X0.warmed.alike, hA.mv X0.warmed.alike hh0, s1.there X0.warmed.alike hh0, hz, l0, by omega, l2, fun i hi => by rw [Nat.zero_add]; exact hp i hi⟩)
  have e0 := Got.mv _ s₁ s _ _ hh0.symm (Vm.Alike.refl _) rfl E3
  obtain rfl := e0.1
  have c4 : Steps p.tables e below (s₁.setTop (entryFrame m #[.ref a, .ref b] 2)) (T3.setTop (mkF m 9 #[.val (.ref a), .val (.ref b)] [])) := g3
  exact ⟨T3, none, _, _, _, X3, by simp, rfl, by omega, (fun _ => rfl), e0, fun fs hl => c4.trans (X3.returnOut hexec hret (hb hbytes d9) hl)⟩
theorem pays {l : Launch} {R : Room} {p : Program} {e : Env} {below : List Frame} {s : State} {sargs : Array Value} {len W : Nat} (a : Addr) (D : Cell) (fV fC : Field) (b : Addr) (A : Cell) (z : Int32) (htab : tab.before sargs s = true) (hfr : 4 ≤ R.frames) (hlo : W + 65 ≤ R.locals) :
    Back l R p e below s sargs yN len W (fun A₁ a₁ => A₁.cells + 1 ≤ R.cells ∧ A₁.slots + A.slots.size ≤ R.slots ∧ P a D fV fC b A z a₁ A₁.U) (fun A₁ _ v₁ B₁ => E a D fV fC A v₁ A₁.U B₁.U ∧ B₁.locs = A₁.locs ++ [⟨a, fC.slot⟩, ⟨a, fV.slot⟩] ∧ B₁.cells = A₁.cells + 1 ∧ B₁.slots = A₁.slots + A.slots.size) :=
  (law l a D fV fC b A z).pays htab hfr (by omega)
end New1
/-- the byte, read back as charAt reads it, is the char -/
theorem lo8_mask {x : Int32} (h0 : ¬ x < 0) (h1 : ¬ 255 < x) : lo8 x &&& 255 = x := by
  have t : ∀ k : Fin 256, lo8 (Int32.ofNat k.val) &&& 255 = Int32.ofNat k.val := by decide +kernel
  rw [Int32.lt_iff_toInt_lt] at h0 h1
  have e0 : (0 : Int32).toInt = 0 := rfl
  have e1 : (255 : Int32).toInt = 255 := rfl
  obtain ⟨k, hk⟩ : ∃ k : Nat, x.toInt = k := ⟨x.toInt.toNat, by omega⟩
  have hx : x = Int32.ofNat k := Int32.toInt_inj.mp (by rw [hk, Int32.toInt_ofNat_small (by omega)])
  rw [hx]
  exact t ⟨k, by omega⟩
end StrChars
namespace StrChars.Road
open Jvm Sem ClassFile Op Lib Jvm.Stand Jvm.Free Jvm.Free.XT
open Jvm.Lib.Cold (StaticIs)
abbrev ST : String := "java/lang/String"
/-- every table word that New1's law asks, flat -/
abbrev words : List Jvm.Cond := [.code New1.yN New1.yB 2 none, .initialized ST, .methodLink ST 27 New4.yN, .instanceMethod New4.yN,
  .code New4.yN New4.yB 6 none, .fieldLink ST 38 ST "COMPACT_STRINGS" "Z", .laysFinal ST ST "value" "[B", .fieldLink ST 9 ST "value" "[B", .laysFinal ST ST "coder" "B", .fieldLink ST 15 ST "coder" "B",
  .methodLink ST 1 Lib.objectInit, .instanceMethod Lib.objectInit, .code Lib.objectInit ⟨#[0xb1]⟩ 1 none, .methodLink ST 177 Cmp3.yN, .static Cmp3.yN, .methodLink ST 47 CodL.yN, .static CodL.yN,
  .code Cmp3.yN Cmp3.yB 6 (some (.array .byte)), .initialized U16, .arrayClass .byte, .methodLink U16 115 Cmp5.yN, .static Cmp5.yN, .code Cmp5.yN Cmp5.yB 7 (some .int), .code CodL.yN CodL.yB 2 (some .byte)]
theorem tab_of {a : Array Value} {s : State} (h : ∀ w ∈ words, w.before a s = true) : New1.tab.before a s = true := by
  have h5 : Cmp5.tab.before a s = true := unparts (wk h (.code Cmp5.yN Cmp5.yB 7 (some .int))) (wks h (.initialized Cmp5.yN.cls :: Cmp5.site))
  have hc : CodL.tab.before a s = true := unparts (wk h (.code CodL.yN CodL.yB 2 (some .byte))) (wks h (.initialized CodL.yN.cls :: CodL.site))
  have q5 : ∀ w ∈ Cmp5.tab :: words, w.before a s = true := fun w hw => (List.mem_cons.mp hw).elim (fun e => e ▸ h5) (h w)
  have h3 : Cmp3.tab.before a s = true := unparts (wk q5 (.code Cmp3.yN Cmp3.yB 6 (some (.array .byte)))) (wks q5 (.initialized Cmp3.yN.cls :: Cmp3.site))
  have q3 : ∀ w ∈ Cmp3.tab :: CodL.tab :: words, w.before a s = true := fun w hw => (List.mem_cons.mp hw).elim (fun e => e ▸ h3) fun hw => (List.mem_cons.mp hw).elim (fun e => e ▸ hc) (h w)
  have h4 : New4.tab.before a s = true := unparts (wk q3 (.code New4.yN New4.yB 6 none)) (wks q3 (.initialized New4.yN.cls :: New4.site))
  have q4 : ∀ w ∈ New4.tab :: words, w.before a s = true := fun w hw => (List.mem_cons.mp hw).elim (fun e => e ▸ h4) (h w)
  exact unparts (wk q4 (.code New1.yN New1.yB 2 none)) (wks q4 (.initialized New1.yN.cls :: New1.site))
/-- the words ride from the start Z to the walk's own state -/
theorem moved {Z s : State} {a0 args : Array Value} (hZ : Z.Warmed39 s.vm) (hw : ∀ d ∈ words, d.before a0 Z = true) : ∀ d ∈ words, d.before args s = true := fun d hd => by
  have q := hw d hd
  have t : ∀ d ∈ words, d = .arrayClass .byte ∨ (d.onTables && d.keepsFace) = true := by decide +kernel
  rcases t d hd with rfl | t
  · exact RoadKit.mvA hZ q
  · exact RoadKit.mv hZ q t
/-- WHAT COMES BACK, over the tables of the start Z: h the heap at the call, h' behind it -/
def Q (Z : State) (x : Addr) (A : Cell) (h : Heap) (v : Option Value) (h' : Heap) (L : List Loc) : Prop := v = none ∧ (∀ y ∈ L, y.base = x) ∧ RoadKit.Keep h h' [x] ∧ h'.size = h.size + 1 ∧ RoadKit.Exa Z h' x ST ∧ RoadKit.Fld Z h' x ST "value" "[B" (.ref h.size) ∧ RoadKit.Fld Z h' x ST "coder" "B" (.int 0) ∧
  (∃ V : Cell, RoadKit.Arr Z h' h.size V .byte ∧ V.vm = .none ∧ Z.vm.findClass "[B" = some V.cls ∧ V.slots.size = A.slots.size ∧ ∀ j, j < A.slots.size → V.slots[j]? = some (.int (lo8 (cv A j)))) ∧
  ∀ (O n d : String) (w : Value), RoadKit.Fld Z h x O n d w → RoadKit.slotOf Z O n d ≠ RoadKit.slotOf Z ST "value" "[B" → RoadKit.slotOf Z O n d ≠ RoadKit.slotOf Z ST "coder" "B" → RoadKit.Fld Z h' x O n d w
/-- **new String(chars) AT A CALL, IN THE ROAD'S FORM**: for specialBack behind newO: x the fresh String, b the char[] with the cell A -/
theorem back {p : Program} {l : Launch} {e : Env} {R : Room} {s : State} {args : Array Value} {below : List Frame} {len W : Nat} {Z : State} {a0 : Array Value} {h : Heap} (hZ : Z.Warmed39 s.vm) (hw : ∀ d ∈ words, d.before a0 Z = true) {kI : Nat} (wi : (Jvm.Cond.instantiable ST kI).before a0 Z = true)
    {x b : Addr} {A : Cell} {z : Int32} {v0 c0 : Value} (E : RoadKit.Exa Z h x ST) (V : RoadKit.Fld Z h x ST "value" "[B" v0) (C : RoadKit.Fld Z h x ST "coder" "B" c0) (K : RoadKit.Arr Z h b A .char) (hty : Typed .char A) (S : RoadKit.Sta Z h ST "COMPACT_STRINGS" "Z" (.int z)) (hz : ¬ z = 0)
    (l0 : 0 < A.slots.size) (l2 : A.slots.size ≤ 536870912) (hp : ∀ i, i < A.slots.size → ¬ 255 < cv A i) (hfr : 4 ≤ R.frames) (hlo : W + 65 ≤ R.locals) :
    Back l R p e below s args New1.yN len W (fun P a => a = #[.ref x, .ref b] ∧ P.U.heap = h ∧ P.cells + 1 ≤ R.cells ∧ P.slots + A.slots.size ≤ R.slots)
      (fun P _ v B => ∃ L, Q Z x A h v B.U.heap L ∧ B.locs = P.locs ++ L ∧ B.cells = P.cells + 1 ∧ B.slots = P.slots + A.slots.size) := by
  intro m meth c P g ig mk a X hg hsize hdg hW hn hp'
  obtain ⟨rfl, rfl, r1, r2⟩ := hp'
  have al : Z.vm.Alike P.U.vm := hZ.alike.trans X.warmed.alike
  obtain ⟨D, cfV, kV, iV, fV, hD, gV, stV, knV, obV, asV, slV⟩ := id V
  obtain ⟨D', cfC, kC, iC, fC, hD', gC, stC, -, -, asC, slC⟩ := id C
  cases hD.symm.trans hD'
  obtain ⟨D2, kD, e1, e2, e3, e4, e5⟩ := id E
  cases hD.symm.trans e1
  obtain ⟨c2, k2, i1, i2, i3, -⟩ := Cond.instantiable_spec wi
  cases e2.symm.trans i1
  cases e3.symm.trans i2
  obtain ⟨kU, u1, u2⟩ := al.2.2 _ _ e3
  have hB : Blank ST x D P.U := ⟨hD, ⟨knV, fun q hq => by rw [hq] at obV; cases obV⟩, by rw [al.findClass]; exact e2, kU, u1, by rw [u2]; exact i3, by rw [u2]; exact e5 i3⟩
  have F1 : Found ST "value" "[B" fV P.U := ⟨SBG.found_only al ⟨cfV, kV, iV, gV⟩, stV⟩
  have F2 : Found ST "coder" "B" fC P.U := ⟨SBG.found_only al ⟨cfC, kC, iC, gC⟩, stC⟩
  have hA : Ch b A P.U := ⟨⟨K.1, State.isArrayOf_alike al K.2.1, K.2.2, by omega⟩, hty⟩
  have hS : StaticIs P.U ST "COMPACT_STRINGS" "Z" (.int z) := by
    obtain ⟨cfS, iS, kS, fS, st, cS, t1, t2, t3, t4, t5, t6, t7⟩ := S
    exact StaticIs.there (s := { Z with heap := P.U.heap }) ⟨cfS, iS, kS, fS, st, cS, t1, t2, t3, t4, t5, (fun q => by rw [q] at t6; cases t6), t7⟩ al rfl
  obtain ⟨v, B, X', ⟨⟨hv, E', V', q1, q2, q3, q4, q5, q6, q7, q8, q9, q10, q11⟩, hl, hc, hs⟩, st⟩ := New1.pays x D fV fC b A z (tab_of (moved hZ hw)) hfr hlo m meth c P g ig mk _ X hg hsize hdg hW hn ⟨r1, r2, rfl, hB, F1, F2, hA, hS, hz, l0, l2, hp⟩
  have al' : Z.vm.Alike B.U.vm := hZ.alike.trans X'.warmed.alike
  have hsz : E'.slots.size = D.slots.size := by
    obtain ⟨-, -, -, kB, w1, w2, w3⟩ := q1
    obtain ⟨kB', y1, y2⟩ := al'.2.2 _ _ e3
    rw [q2.2.1] at w1
    cases w1.symm.trans y1
    rw [w3, e5 i3, y2]
  refine ⟨v, B, X', ⟨_, ⟨hv, ?_, ⟨by omega, fun y cy hy hn' => q10 y cy (by simpa using hn') hy, fun y cy hy => ?_⟩, q11, ⟨E', _, q1.1, by rw [q2.2.1]; exact e2, by rw [q2.2.1]; exact e3, by rw [q2.1]; exact obV, fun _ => by rw [hsz]; exact e5 i3⟩,
    ⟨E', cfV, kV, iV, fV, q1.1, gV, stV, by rw [q2.1]; exact knV, by rw [q2.1]; exact obV, by rw [q2.2.1]; exact asV, q3⟩, ⟨E', cfC, kC, iC, fC, q1.1, gC, stC, by rw [q2.1]; exact knV, by rw [q2.1]; exact obV, by rw [q2.2.1]; exact asC, q4⟩,
    ⟨V', ⟨q5.1, State.isArrayOf_alike al'.symm q5.2.1, q5.2.2.1⟩, q6, by rw [← al'.findClass]; exact q7, q8, fun j hj => by have := q9 j hj; rwa [Nat.zero_add] at this⟩, fun O n d w F n1 n2 => ?_⟩, hl, hc, hs⟩, st⟩
  · intro y hy
    simp only [List.mem_cons, List.not_mem_nil, or_false] at hy
    rcases hy with rfl | rfl <;> rfl
  · by_cases q : y = x
    · subst q
      cases hD.symm.trans hy
      exact ⟨E', q1.1, q2.2.1, q2.1, hsz⟩
    · exact ⟨cy, q10 y cy q hy, rfl, rfl, rfl⟩
  · obtain ⟨D3, cf, k, i, f, g1, g2, g3, g4, g5, g6, g7⟩ := F
    cases hD.symm.trans g1
    simp only [RoadKit.slotOf, g2, gV, gC, Option.map_some, Option.getD_some] at n1 n2
    exact ⟨E', cf, k, i, f, q1.1, g2, g3, by rw [q2.1]; exact g4, by rw [q2.1]; exact g5, by rw [q2.2.1]; exact g6, by rw [q2.2.2 f.slot (by simp [n1, n2])]; exact g7⟩
end StrChars.Road
namespace StrChars.Road
open Jvm Sem ClassFile Op Lib Jvm.Stand Jvm.Free Jvm.Free.XT
/-- WHAT COMES BACK, the byte[] as a list of values -/
def QA (Z : State) (x : Addr) (zn : Int32) (cs : List Int32) (h : Heap) (v : Option Value) (h' : Heap) (L : List Loc) : Prop := v = none ∧ (∀ y ∈ L, y.base = x) ∧ RoadKit.Keep h h' [x] ∧ h'.size = h.size + 1 ∧ RoadKit.Exa Z h' x ST ∧ RoadKit.Fld Z h' x ST "value" "[B" (.ref h.size) ∧ RoadKit.Fld Z h' x ST "coder" "B" (.int 0) ∧
  (∃ kb, Z.vm.findClass "[B" = some kb ∧ RoadKit.Arv Z h' h.size kb .byte zn (cs.map fun c => .int (lo8 c)) (.int 0)) ∧
  ∀ (O n d : String) (w : Value), RoadKit.Fld Z h x O n d w → RoadKit.slotOf Z O n d ≠ RoadKit.slotOf Z ST "value" "[B" → RoadKit.slotOf Z O n d ≠ RoadKit.slotOf Z ST "coder" "B" → RoadKit.Fld Z h' x O n d w
/-- **new String(chars) AT A CALL, THE ARRAYS AS LISTS**: the char[] at b holds cs, not empty, no char above 255 -/
theorem backArv {p : Program} {l : Launch} {e : Env} {R : Room} {s : State} {args : Array Value} {below : List Frame} {len W : Nat} {Z : State} {a0 : Array Value} {h : Heap} (hZ : Z.Warmed39 s.vm) (hw : ∀ d ∈ words, d.before a0 Z = true) {kI : Nat} (wi : (Jvm.Cond.instantiable ST kI).before a0 Z = true)
    {x b : Addr} {k : ClassId} {zn z : Int32} {cs : List Int32} {dv v0 c0 : Value} (E : RoadKit.Exa Z h x ST) (V : RoadKit.Fld Z h x ST "value" "[B" v0) (C : RoadKit.Fld Z h x ST "coder" "B" c0) (K : RoadKit.Arv Z h b k .char zn (cs.map Value.int) dv) (S : RoadKit.Sta Z h ST "COMPACT_STRINGS" "Z" (.int z)) (hz : ¬ z = 0)
    (hlen : zn.toNatClampNeg = cs.length) (h0 : 0 < cs.length) (hbig : cs.length ≤ 536870912) (hall : ∀ c ∈ cs, ¬ 255 < c) (hfr : 4 ≤ R.frames) (hlo : W + 65 ≤ R.locals) :
    Back l R p e below s args New1.yN len W (fun P a => a = #[.ref x, .ref b] ∧ P.U.heap = h ∧ P.cells + 1 ≤ R.cells ∧ P.slots + cs.length ≤ R.slots)
      (fun P _ v B => ∃ L, QA Z x zn cs h v B.U.heap L ∧ B.locs = P.locs ++ L ∧ B.cells = P.cells + 1 ∧ B.slots = P.slots + cs.length) := by
  obtain ⟨A, K1, K2, K3, K4, K5, K6⟩ := K
  have e : A.slots.size = cs.length := K3.trans hlen
  have hat : ∀ (i : Nat) (hi : i < cs.length), A.slots[i]? = some (.int cs[i]) := fun i hi => by rw [K5 i (by omega)]; simp [List.getD_eq_getElem?_getD, hi]
  have hcv : ∀ (i : Nat) (hi : i < cs.length), cv A i = cs[i] := fun i hi => by unfold cv; rw [hat i hi]
  have hty : Typed .char A := fun i v hv => by
    have hi : i < A.slots.size := (Array.getElem?_eq_some_iff.mp hv).1
    have q := K5 i hi
    rw [hv] at q
    rw [Option.some.inj q]
    exact K6 i hi
  refine Back.mono (back hZ hw wi E V C K1 hty S hz (by omega) (by omega) (fun i hi => by rw [hcv i (by omega)]; exact hall _ (List.getElem_mem _)) hfr hlo) (fun P a hp => ⟨hp.1, hp.2.1, hp.2.2.1, by rw [e]; exact hp.2.2.2⟩) (fun P a v B hp hq => ?_)
  obtain ⟨L, ⟨q1, q2, q3, q4, q5, q6, q7, ⟨V', v1, v2, v3, v4, v5⟩, q9⟩, hl, hc, hs⟩ := hq
  refine ⟨L, ⟨q1, q2, q3, q4, q5, q6, q7, ⟨V'.cls, v3, V', v1, rfl, by rw [v4, e, hlen], K4, fun i hi => ?_, fun i hi => ?_⟩, q9⟩, hl, hc, by rw [hs, e]⟩
  · have hi' : i < cs.length := by omega
    rw [v5 i (by omega), hcv i hi']; simp [List.getD_eq_getElem?_getD, hi']
  · have hi' : i < cs.length := by omega
    simp only [List.getD_eq_getElem?_getD, List.getElem?_map, List.getElem?_eq_getElem hi', Option.map_some, Option.getD_some]
    exact fits_lo8 _
end StrChars.Road
namespace StrChars.Road
open Jvm Sem ClassFile Op Lib Jvm.Stand Jvm.Free Jvm.Free.XT
/-- WHAT COMES BACK, in the writer's own shape -/
def QV (Z : State) (x : Addr) (N : Int32) (bs : List Int32) (h : Heap) (n0 : Nat) (v : Option Value) (h' : Heap) (L : List Loc) : Prop := v = none ∧ RoadKit.Fr n0 L ∧ RoadKit.Keep h h' [x] ∧ RoadKit.Exa Z h' x ST ∧ RoadKit.Fld Z h' x ST "coder" "B" (.int 0) ∧
  ∃ (t : Addr) (kb : ClassId), n0 ≤ t ∧ h.size ≤ t ∧ ¬ t = x ∧ RoadKit.Fld Z h' x ST "value" "[B" (.ref t) ∧ RoadKit.Arv Z h' t kb .byte N (bs.map Value.int) (.int 0)
/-- **new String(chars) AT A CALL, FOR THE WRITER**: a char[] of n known ints, each 0 to 255 -/
theorem backV {p : Program} {l : Launch} {e : Env} {R : Room} {s : State} {args : Array Value} {below : List Frame} {len W : Nat} {Z : State} {a0 : Array Value} {h : Heap} (hZ : Z.Warmed39 s.vm) (hw : ∀ d ∈ words, d.before a0 Z = true) {kI : Nat} (wi : (Jvm.Cond.instantiable ST kI).before a0 Z = true)
    {x b : Addr} {kC : ClassId} {cs bs : List Int32} {d v0 c0 : Value} {z N : Int32} {n n0 : Nat} (hx0 : n0 ≤ x) (hh0 : n0 ≤ h.size) (E : RoadKit.Exa Z h x ST) (V : RoadKit.Fld Z h x ST "value" "[B" v0) (C : RoadKit.Fld Z h x ST "coder" "B" c0) (K : RoadKit.Arv Z h b kC .char N (cs.map Value.int) d) (S : RoadKit.Sta Z h ST "COMPACT_STRINGS" "Z" (.int z)) (hz : ¬ z = 0)
    (hn : cs.length = n) (hN : N = Int32.ofNat n) (l0 : 0 < n) (l2 : n ≤ 4000) (hp : ∀ c ∈ cs, ¬ c < 0 ∧ ¬ (255 : Int32) < c) (hb : bs = cs.map (fun c => c.toInt8.toInt32)) (hfr : 4 ≤ R.frames) (hlo : W + 65 ≤ R.locals) :
    Back l R p e below s args (⟨"java/lang/String", "<init>", "([C)V"⟩ : MethodName) len W (fun P a => a = #[.ref x, .ref b] ∧ P.U.heap = h ∧ P.cells + 1 ≤ R.cells ∧ P.slots + n ≤ R.slots)
      (fun P _ v B => ∃ L, QV Z x N bs h n0 v B.U.heap L ∧ B.locs = P.locs ++ L ∧ B.cells = P.cells + 1 ∧ B.slots = P.slots + n) := by
  subst hn hN hb
  refine Back.mono (backArv hZ hw wi E V C K S hz (n32 (by omega)) l0 (by omega) (fun c hc => (hp c hc).2) hfr hlo) (fun P a hp => hp) (fun P a v B hp hq => ?_)
  obtain ⟨L, ⟨q1, q2, q3, q4, q5, q6, q7, ⟨kb, v1, v2⟩, q9⟩, hl, hc, hs⟩ := hq
  exact ⟨L, ⟨q1, fun y hy => by rw [q2 y hy]; exact hx0, q3, q5, q7, h.size, kb, hh0, Nat.le_refl _, Nat.ne_of_gt E.lt, q6, by rw [List.map_map]; exact v2⟩, hl, hc, hs⟩
end StrChars.Road
namespace StrChars
open Jvm Sem ClassFile Op Lib Jvm.Stand Jvm.Free.XT Jvm.Free.ALB Jvm.Free.JM Jvm.Free
open Jvm.Lib.Cold (StaticIs)
theorem lo8_inj {x y : Int32} (h0 : ¬ x < 0) (h1 : ¬ 255 < x) (k0 : ¬ y < 0) (k1 : ¬ 255 < y) (h : lo8 x = lo8 y) : x = y := by
  rw [← lo8_mask h0 h1, ← lo8_mask k0 k1, h]
end StrChars
end Jvm.Pilot.@@N@@
namespace Jvm.Pilot.@@N@@
open Jvm Jvm.ClassFile Sem Op Lib Jvm.Free Jvm.Stand Jvm.LawKit Jvm.RoadKit Bundle Jvm.Pilot.@@N@@.Jvm.D
section Own
variable {p : Program} {l : Launch} {e : Env} {R : Room} {s : State} {m : MethodId} {args : Array Value} {below : List Frame} {meth : Method} {c : Code} {T T' : State} {locs : List Loc} {cells slots : Nat} {G : Outcome → State → Prop} {g g' : JFrame}
/-- from here the walk ends, and ends as G says -/
def OwnGoes (p : Program) (e : Env) (below : List Frame) (G : Outcome → State → Prop) (T : State) (g : JFrame) : Prop := ∃ s₂ o, Steps p.tables e below (T.setTop g) s₂ ∧ s₂.status = .running ∧ Ended s₂ below o ∧ G o s₂
theorem OwnGoes.step (h : ∀ t, Steps p.tables e below (T'.setTop g') t → Steps p.tables e below (T.setTop g) t) (k : OwnGoes p e below G T' g') : OwnGoes p e below G T g := by
  obtain ⟨s2, o, h1, r⟩ := k
  exact ⟨s2, o, h _ h1, r⟩
theorem OwnGoes.tr (h : Steps p.tables e below (T.setTop g) (T'.setTop g')) (k : OwnGoes p e below G T' g') : OwnGoes p e below G T g := by
  obtain ⟨s2, o, h1, r⟩ := k
  exact ⟨s2, o, h.trans h1, r⟩
theorem own_leave (X : Stand p l e R s m args below meth c T locs cells slots) (hlk : meth.locks = false) {v : Option Value} (hv : meth.sig.returnType = none → v = none)
    (hret : ∀ fs, (∀ (f : JFrame) (acts : List Action), f.method = m → f.locked = none → f.entered = [] → (doReturn e (T.setTop f) acts v).1 = T.setFrames fs) → Steps p.tables e below (T.setTop g) (T.setFrames fs))
    {k n : Nat} (hc : cells ≤ k) (hs : slots ≤ n) {Q : Option Value → Heap → List Loc → Prop} (hQ : Q v T.heap locs) :
    OwnGoes p e below (fun o U' => ∃ v L, o = .returned v ∧ Q v U'.heap L ∧ FrameEnd s o U' L k n) T g := by
  obtain ⟨fs, hr, hrun, hended, hW, hsame⟩ := X.leave (v := v) hv hlk
  exact ⟨_, _, hret fs hr, hrun, hended, v, locs, rfl, hQ, ⟨_, rfl⟩, hW, hsame.mono hc hs⟩
theorem own_leaveW {Z : State} {EL : List (String × Nat)} {vm1 : Vm} (X : Stand p l e R (s.setVm vm1) m args below meth c T locs cells slots) {n1 : Nat} (hS : s.Since vm1 n1) (hn : n1 ≤ T.heap.size) (hlk : meth.locks = false) {v : Option Value} (hv : meth.sig.returnType = none → v = none)
    (hret : ∀ fs, (∀ (f : JFrame) (acts : List Action), f.method = m → f.locked = none → f.entered = [] → (doReturn e (T.setTop f) acts v).1 = T.setFrames fs) → Steps p.tables e below (T.setTop g) (T.setFrames fs))
    {k n : Nat} (hc : cells ≤ k) (hs : slots ≤ n) {Q : Option Value → Heap → List Loc → Prop} (hR : CHr Z EL s.vm s.heap T.vm T.heap) (hQ : Q v T.heap locs) :
    OwnGoes p e below (fun o U' => ∃ v L, o = .returned v ∧ Q v U'.heap L ∧ CHr Z EL s.vm s.heap U'.vm U'.heap ∧ ReturnedEndW s o U' L k n) T g := by
  obtain ⟨fs, hr, hrun, hended, a1, a2, a3, a4⟩ := X.leaveW hS hn (v := v) hv hlk
  exact ⟨_, _, hret fs hr, hrun, hended, v, locs, rfl, hQ, hR, a1, a2, a3, a4.mono hc hs⟩
theorem own_arv_ty {Z : State} {h : Heap} {a b : Addr} {k k' : ClassId} {ty ty' : FieldType} {n n' : Int32} {vs vs' : List Value} {d d' : Value} (A : Arv Z h a k ty n vs d) (B : Arv Z h b k' ty' n' vs' d') (q : ty ≠ ty') : a ≠ b := fun e => by
  subst e
  obtain ⟨c1, ⟨a1, ⟨-, k1, a2, c1', a3⟩, -⟩, -⟩ := A
  obtain ⟨c2, ⟨b1, ⟨-, k2, b2, c2', b3⟩, -⟩, -⟩ := B
  cases a1.symm.trans b1
  cases a2.symm.trans b2
  have := a3.symm.trans b3
  injection this with _ e
  exact q e
theorem own_nar2_char (x : Int32) : nar .char (nar .char x) = nar .char x := by simp only [nar, UInt32.toUInt32_toInt32, UInt16.toUInt16_toUInt32]
theorem own_nar2_byte (x : Int32) : nar .byte (nar .byte x) = nar .byte x := by simp [nar]
theorem own_nar2_boolean (x : Int32) : nar .boolean (nar .boolean x) = nar .boolean x := by simp [nar, Int32.and_assoc]
theorem own_toInt32_lt (x y : Int32) : x < y ↔ x.toInt < y.toInt := Int32.lt_iff_toInt_lt
theorem own_lat255 (x : Int32) : ¬ nar .char (x &&& (255 : Int32)) < 0 ∧ ¬ (255 : Int32) < nar .char (x &&& (255 : Int32)) := by
  have t : ∀ k : Fin 256, ¬ nar .char (Int32.ofNat k.val) < 0 ∧ ¬ (255 : Int32) < nar .char (Int32.ofNat k.val) := by decide +kernel
  have h : (x &&& 255).toBitVec.toNat < 256 := by
    simp only [Int32.toBitVec_and, BitVec.toNat_and]
    exact Nat.lt_succ_of_le Nat.and_le_right
  have e : (x &&& 255) = Int32.ofNat (x &&& 255).toBitVec.toNat := by
    apply Int32.toBitVec_inj.mp
    show _ = BitVec.ofNat 32 _
    rw [BitVec.ofNat_toNat]; simp
  rw [e]
  exact t ⟨_, h⟩
theorem own_nar_lat {x : Int32} (h : ¬ x < 0 ∧ ¬ (255 : Int32) < x) : nar .char x = x := by
  have h1 : ∀ k : Fin 256, nar .char (Int32.ofNat k.val) = Int32.ofNat k.val := by decide +kernel
  obtain ⟨a, b⟩ := h
  rw [Int32.lt_iff_toInt_lt] at a b
  have e1 : (0 : Int32).toInt = 0 := rfl
  have e2 : (255 : Int32).toInt = 255 := rfl
  have e : x = Int32.ofNat x.toInt.toNat := by
    apply Int32.toInt_inj.mp
    rw [Int32.toInt_ofNat_of_lt (by omega)]
    omega
  rw [e]
  exact h1 ⟨x.toInt.toNat, by omega⟩
theorem own_up (cs : List Int32) (h : ∀ c ∈ cs, ¬ c < 0 ∧ ¬ (255 : Int32) < c) : ∀ c ∈ cs, ¬ c < 0 ∧ ¬ (65535 : Int32) < c := fun c hc => ⟨(h c hc).1, fun q => (h c hc).2 (by rw [Int32.lt_iff_toInt_lt] at q ⊢; have e1 : (65535 : Int32).toInt = 65535 := rfl; have e2 : (255 : Int32).toInt = 255 := rfl; omega)⟩
end Own
theorem own_mk {s : State} {vm1 : Vm} {n : Nat} (hS : s.Since vm1 n) (h : s.vm.MethodsKnown) : vm1.MethodsKnown := Vm.MethodsKnown.alikeC hS.1.alike h
theorem own_fk {s : State} {vm1 : Vm} {n : Nat} {fs : List Frame} (hS : s.Since vm1 n) (h : s.vm.FramesKnown fs) : vm1.FramesKnown fs := Vm.FramesKnown.alikeC hS.1.alike h
theorem own_ths {Z : State} {n0 : Nat} {h : Heap} (O : Old Z n0 h) : ThS Z h := fun st k cl cell _ _ _ q _ => O.2.2 st cell q
theorem own_mem0 {P : Int32 → Prop} : ∀ c ∈ ([] : List Int32), P c := fun _ h => nomatch h
theorem own_memS {P : Int32 → Prop} {x : Int32} {L : List Int32} (h : P x) (r : ∀ c ∈ L, P c) : ∀ c ∈ x :: L, P c := fun c q => by
  rcases List.mem_cons.mp q with rfl | q
  · exact h
  · exact r c q
theorem own_safe_null {Z : State} {EL : List (String × Nat)} {vm : Vm} {h : Heap} {a : Addr} {a0 : Array Value} {n : Nat} (hal : Z.vm.Alike vm) (wi : (Jvm.Cond.instantiable "java/lang/String" n).before a0 Z = true) (E : Exa Z h a "java/lang/String") (F : Fld Z h a "java/lang/String" "value" "[B" .null) : Safe Z EL vm h a := fun B => by
  obtain ⟨cell, k, e1, e2, e3, -, -⟩ := E
  obtain ⟨p, -, u, b, -, q, -, G, rfl | rfl⟩ := B
  · obtain ⟨cS, ⟨⟨s1, -, -, ⟨cv, kv, iv, s4, -⟩, -, -, -, s8, -⟩, -⟩, -⟩ := G
    obtain ⟨c2, cf, k2, i2, f2, g1, g2, -, -, -, -, g7⟩ := F
    obtain ⟨kv', z4⟩ := ff_back (U := Wst Z vm h) hal s4
    cases g2.symm.trans z4
    cases (show h[q.sa]? = some q.sC from s1).symm.trans g1
    rw [s8] at g7
    cases g7
  · have hd : h[q.sd]? = some q.SA := G.hd
    cases hd.symm.trans e1
    obtain ⟨cS, -, -, f, -⟩ := G
    have f' : vm.findClass "[B" = some q.SA.cls := f
    rw [hal.findClass] at f'
    obtain ⟨k1, q1, q2⟩ := Vm.findClass_spec f'
    obtain ⟨k2, q3, q4⟩ := Vm.findClass_spec e2
    cases q1.symm.trans q3
    exact absurd (q2.symm.trans q4) (by decide)
theorem own_ins_keep {Z : State} {h h' : Heap} {a : Addr} {C : String} {ws : List Addr} (F : Ins Z h a C true) (K : Keep h h' ws) : Ins Z h' a C true := by
  obtain ⟨c, cT, h1, h2, h3⟩ := F
  obtain ⟨c', q1, q2, q3, -⟩ := K.2.2 _ _ h1
  exact ⟨c', cT, q1, h2, by rw [q2, q3]; exact h3⟩
theorem own_and3 (x : Int32) : x &&& (3 : Int32) = 0 ∨ x &&& (3 : Int32) = 1 ∨ x &&& (3 : Int32) = 2 ∨ x &&& (3 : Int32) = 3 := by
  have t : ∀ k : Fin 4, Int32.ofNat k.val = 0 ∨ Int32.ofNat k.val = 1 ∨ Int32.ofNat k.val = 2 ∨ Int32.ofNat k.val = 3 := by decide +kernel
  have h : (x &&& 3).toBitVec.toNat < 4 := by
    simp only [Int32.toBitVec_and, BitVec.toNat_and]
    exact Nat.lt_succ_of_le Nat.and_le_right
  have e : (x &&& 3) = Int32.ofNat (x &&& 3).toBitVec.toNat := by
    apply Int32.toBitVec_inj.mp
    show _ = BitVec.ofNat 32 _
    rw [BitVec.ofNat_toNat]; simp
  rw [e]
  exact t ⟨_, h⟩
theorem own_byte_inj {x y : Int32} (h : ¬ x < 0 ∧ ¬ (255 : Int32) < x) (k : ¬ y < 0 ∧ ¬ (255 : Int32) < y) : x.toInt8.toInt32 = nar .byte y ↔ y = x := ⟨fun e => (StrChars.lo8_inj h.1 h.2 k.1 k.2 e).symm, fun e => by subst e; rfl⟩
theorem ef_can (m : MethodId) (x0 : Int32) : entryFrame m #[(.int x0)] 1 = mkF m 0 #[.val (.int x0)] [] := by first | (simp [entryFrame, mkF, argsToLocals, Value.category]; done) | rfl
def Q_can (Z : State) (p1 : Int32) (h0 : Heap) (n0 : Nat) (v : Option Value) (h : Heap) (L : List Loc) : Prop := v = some (.int (1 : Int32)) ∧ Fr n0 L ∧ h = h0
theorem pn_54843740 : plainName "java/lang/StringLatin1" = true := by first | (simp [plainName, overriddenIn]; done) | decide +kernel
theorem dd_jdk_43_method_3_0 : decode jdk_43_method_3_code 0 = .ok (.iload_n 0, 1) := by decide +kernel
theorem dd_jdk_43_method_3_1 : decode jdk_43_method_3_code 1 = .ok (.sipush 255, 3) := by decide +kernel
theorem dd_jdk_43_method_3_4 : decode jdk_43_method_3_code 4 = .ok (.if_icmp .gt 7, 3) := by decide +kernel
theorem dd_jdk_43_method_3_7 : decode jdk_43_method_3_code 7 = .ok (.iconst 1, 1) := by decide +kernel
theorem dd_jdk_43_method_3_8 : decode jdk_43_method_3_code 8 = .ok (.goto 4, 3) := by decide +kernel
theorem dd_jdk_43_method_3_12 : decode jdk_43_method_3_code 12 = .ok (.ireturn, 1) := by decide +kernel
set_option maxRecDepth 65536 in
set_option maxHeartbeats 40000000 in
theorem rm_can (l : Launch) (Z : State) (a0 : Array Value) (hw : ∀ d ∈ tables_1, d.before a0 Z = true) (ws : List Jvm.Cond) (wG1 : Int32) (wO2 : Sta Z Z.heap "java/lang/String" "COMPACT_STRINGS" "Z" (.int wG1)) (wP5 : ¬ (wG1 = (0 : Int32))) (wG3 : Value) (wO4 : Sta Z Z.heap "jdk/internal/util/Preconditions" "SIOOBE_FORMATTER" "Ljava/util/function/BiFunction;" wG3) (wrG3 : wG3.isRef = true) (hstr : ∀ a ∈ Bundle.stringAtoms, a.before a0 Z = true) (hEL : EW Z a0 consts_1) (h0 : Heap) (n0 : Nat) (X00 : Old Z n0 h0) (p1 : Int32) (hl : ¬ ((255 : Int32) < p1)) :
    MetFree l (⟨"java/lang/StringLatin1", "canEncode", "(C)Z"⟩ : MethodName) (head1 (Jvm.Cond.code (⟨"java/lang/StringLatin1", "canEncode", "(C)Z"⟩ : MethodName) jdk_43_method_3_code 1 (some .boolean) :: ws) ({ frames := 0, cells := 0, slots := 0, locals := 0 } : Room)) (fun a U => a = #[(.int p1)] ∧ Z.Warmed39 U.vm ∧ U.heap = h0) (fun _ _ _ _ _ => True) (fun _ U o U' => ∃ v L, o = .returned v ∧ Q_can Z p1 h0 n0 v U'.heap L ∧ FrameEnd U o U' L ({ frames := 0, cells := 0, slots := 0, locals := 0 } : Room).cells ({ frames := 0, cells := 0, slots := 0, locals := 0 } : Room).slots) := by
  refine MetFree.of_bodySF (plainFor_of_name pn_54843740) hisR ?_
  intro p e s m args below meth c s₁ Bd hml0 hP hK
  obtain ⟨rfl, hZ, hh⟩ := hP
  have hx := Bd.exec
  have hby := Bd.bytes
  have hlk := Bd.notSynchronized
  have hml : c.maxLocals = 1 := hml0
  have hown : s.vm.findClass "java/lang/StringLatin1" = some m.cls := findClass_of_methodNamed Bd.named
  have hnm := (name_of_methodNamed Bd.named Bd.method).1
  have X0 : Stand p l e ({ frames := 0, cells := 0, slots := 0, locals := 0 } : Room) s m #[(.int p1)] below meth c s₁ [] 0 0 := Stand.of_body Bd
  have e0 : s₁.heap = h0 := by rw [← hh, Bd.state]; rfl
  have N0 := Fr.nil n0
  have Z0 : n0 ≤ h0.size := X00.1 ▸ X00.2.1
  have K0 : Keep h0 h0 ([] : List Addr) := Keep.refl _ _
  show OwnGoes p e below (fun o U' => ∃ v L, o = .returned v ∧ Q_can Z p1 h0 n0 v U'.heap L ∧ FrameEnd s o U' L ({ frames := 0, cells := 0, slots := 0, locals := 0 } : Room).cells ({ frames := 0, cells := 0, slots := 0, locals := 0 } : Room).slots) s₁ (entryFrame m #[(.int p1)] 1)
  refine OwnGoes.step (T' := s₁) (g' := (mkF m 0 #[.val (.int p1)] [])) (fun tgt kgo => castTop (ef_can m p1) kgo) ?_
  refine OwnGoes.step (T' := s₁) (g' := (mkF m 12 #[.val (.int p1)] [(.int (1 : Int32))])) (fun tgt kgo => ?_) ?_
  · show Steps p.tables e below (s₁.setTop (mkF m 0 #[.val (.int p1)] [])) tgt
    refine XS.iloadN X0.here hx rfl (hb hby dd_jdk_43_method_3_0) rfl ?_
    show Steps p.tables e below (s₁.setTop (mkF m 1 #[.val (.int p1)] [(.int p1)])) tgt
    refine XS.sipush X0.here hx rfl (hb hby dd_jdk_43_method_3_1) ?_
    show Steps p.tables e below (s₁.setTop (mkF m 4 #[.val (.int p1)] [(.int (255 : Int32)), (.int p1)])) tgt
    refine XS.icmpNo X0.here hx rfl (hb hby dd_jdk_43_method_3_4) rfl (flt hl).2.2.1 ?_
    show Steps p.tables e below (s₁.setTop (mkF m 7 #[.val (.int p1)] [])) tgt
    refine XS.iconst X0.here hx rfl (hb hby dd_jdk_43_method_3_7) ?_
    show Steps p.tables e below (s₁.setTop (mkF m 8 #[.val (.int p1)] [(.int (1 : Int32))])) tgt
    refine XS.goto X0.here hx rfl (pc0 := 8) (pc' := 12) rfl (hb hby dd_jdk_43_method_3_8) (by decide) (by decide) ?_
    exact kgo
  refine own_leave X0 hlk (v := some (.int (1 : Int32))) (fun h => by rw [Bd.returns] at h; cases h) (fun fs hr => retN X0 hx (t := .boolean) Bd.returns (by simp) (hb hby dd_jdk_43_method_3_12) (by rw [(by decide : nar .boolean (1 : Int32) = (1 : Int32))]; exact hr)) (by decide) (by decide) ?_
  show Q_can Z p1 h0 n0 _ s₁.heap _
  rw [e0]
  exact ⟨rfl, N0, rfl⟩
theorem ef_tob (m : MethodId) (x0 : Int32) : entryFrame m #[(.int x0)] 1 = mkF m 0 #[.val (.int x0)] [] := by first | (simp [entryFrame, mkF, argsToLocals, Value.category]; done) | rfl
def Q_tob (Z : State) (p1 : Int32) (h0 : Heap) (n0 : Nat) (v : Option Value) (h : Heap) (L : List Loc) : Prop := ∃ (t : Addr), ∃ (k : ClassId), v = some (.ref t) ∧ Fr n0 L ∧ Keep h0 h ([] : List Addr) ∧ h0.size ≤ t ∧ Arv Z h t k .byte (1 : Int32) [(.int (nar .byte p1))] (.int (0 : Int32))
theorem dd_jdk_43_method_46_0 : decode jdk_43_method_46_code 0 = .ok (.iconst 1, 1) := by decide +kernel
theorem dd_jdk_43_method_46_1 : decode jdk_43_method_46_code 1 = .ok (.newarray .byte, 2) := by decide +kernel
theorem dd_jdk_43_method_46_3 : decode jdk_43_method_46_code 3 = .ok (.dup, 1) := by decide +kernel
theorem dd_jdk_43_method_46_4 : decode jdk_43_method_46_code 4 = .ok (.iconst 0, 1) := by decide +kernel
theorem dd_jdk_43_method_46_5 : decode jdk_43_method_46_code 5 = .ok (.iload_n 0, 1) := by decide +kernel
theorem dd_jdk_43_method_46_6 : decode jdk_43_method_46_code 6 = .ok (.i2b, 1) := by decide +kernel
theorem dd_jdk_43_method_46_7 : decode jdk_43_method_46_code 7 = .ok (.bastore, 1) := by decide +kernel
theorem dd_jdk_43_method_46_8 : decode jdk_43_method_46_code 8 = .ok (.areturn, 1) := by decide +kernel
set_option maxRecDepth 65536 in
set_option maxHeartbeats 40000000 in
theorem rm_tob (l : Launch) (Z : State) (a0 : Array Value) (hw : ∀ d ∈ tables_1, d.before a0 Z = true) (ws : List Jvm.Cond) (wG1 : Int32) (wO2 : Sta Z Z.heap "java/lang/String" "COMPACT_STRINGS" "Z" (.int wG1)) (wP5 : ¬ (wG1 = (0 : Int32))) (wG3 : Value) (wO4 : Sta Z Z.heap "jdk/internal/util/Preconditions" "SIOOBE_FORMATTER" "Ljava/util/function/BiFunction;" wG3) (wrG3 : wG3.isRef = true) (hstr : ∀ a ∈ Bundle.stringAtoms, a.before a0 Z = true) (hEL : EW Z a0 consts_1) (h0 : Heap) (n0 : Nat) (X00 : Old Z n0 h0) (p1 : Int32) :
    MetFree l (⟨"java/lang/StringLatin1", "toBytes", "(C)[B"⟩ : MethodName) (head1 (Jvm.Cond.code (⟨"java/lang/StringLatin1", "toBytes", "(C)[B"⟩ : MethodName) jdk_43_method_46_code 1 (some (.array .byte)) :: ws) ({ frames := 0, cells := 1, slots := 1, locals := 0 } : Room)) (fun a U => a = #[(.int p1)] ∧ Z.Warmed39 U.vm ∧ U.heap = h0) (fun _ _ _ _ _ => True) (fun _ U o U' => ∃ v L, o = .returned v ∧ Q_tob Z p1 h0 n0 v U'.heap L ∧ FrameEnd U o U' L ({ frames := 0, cells := 1, slots := 1, locals := 0 } : Room).cells ({ frames := 0, cells := 1, slots := 1, locals := 0 } : Room).slots) := by
  refine MetFree.of_bodySF (plainFor_of_name pn_54843740) hisR ?_
  intro p e s m args below meth c s₁ Bd hml0 hP hK
  obtain ⟨rfl, hZ, hh⟩ := hP
  have hx := Bd.exec
  have hby := Bd.bytes
  have hlk := Bd.notSynchronized
  have hml : c.maxLocals = 1 := hml0
  have hown : s.vm.findClass "java/lang/StringLatin1" = some m.cls := findClass_of_methodNamed Bd.named
  have hnm := (name_of_methodNamed Bd.named Bd.method).1
  have X0 : Stand p l e ({ frames := 0, cells := 1, slots := 1, locals := 0 } : Room) s m #[(.int p1)] below meth c s₁ [] 0 0 := Stand.of_body Bd
  have e0 : s₁.heap = h0 := by rw [← hh, Bd.state]; rfl
  have N0 := Fr.nil n0
  have Z0 : n0 ≤ h0.size := X00.1 ▸ X00.2.1
  have K0 : Keep h0 h0 ([] : List Addr) := Keep.refl _ _
  show OwnGoes p e below (fun o U' => ∃ v L, o = .returned v ∧ Q_tob Z p1 h0 n0 v U'.heap L ∧ FrameEnd s o U' L ({ frames := 0, cells := 1, slots := 1, locals := 0 } : Room).cells ({ frames := 0, cells := 1, slots := 1, locals := 0 } : Room).slots) s₁ (entryFrame m #[(.int p1)] 1)
  refine OwnGoes.step (T' := s₁) (g' := (mkF m 0 #[.val (.int p1)] [])) (fun tgt kgo => castTop (ef_tob m p1) kgo) ?_
  refine OwnGoes.step (T' := s₁) (g' := (mkF m 1 #[.val (.int p1)] [(.int (1 : Int32))])) (fun tgt kgo => ?_) ?_
  · show Steps p.tables e below (s₁.setTop (mkF m 0 #[.val (.int p1)] [])) tgt
    refine XS.iconst X0.here hx rfl (hb hby dd_jdk_43_method_46_0) ?_
    exact kgo
  obtain ⟨T1, h1, k1, X1, e1, E1, A1, st1⟩ := newP X0 hx hZ (hw _ (List.mem_of_getElem? (i := 23) rfl)) e0 (g := (mkF m 1 #[.val (.int p1)] [(.int (1 : Int32))])) rfl (hb hby dd_jdk_43_method_46_1) rfl (by decide) (cap := 1) (by decide) (by decide) (by decide) (by decide)
  obtain ⟨b1, g1⟩ : ∃ z, z = h0.size := ⟨_, rfl⟩
  rw [← g1] at A1 st1
  refine OwnGoes.step (T' := T1) (g' := (mkF m 3 #[.val (.int p1)] [(.ref b1)])) st1 ?_
  have V1 : Arv Z h1 b1 k1 .byte (1 : Int32) [(.int (0 : Int32))] (.int (0 : Int32)) := (Arv.new A1 (by decide)).pad (pad_rep [] (.int (0 : Int32)) 1)
  have g_b1 : n0 ≤ b1 := Nat.le_trans (Nat.le_trans Z0 K0.1) (Nat.le_of_eq g1.symm)
  have s_b1 : h0.size ≤ b1 := Nat.le_trans K0.1 (Nat.le_of_eq g1.symm)
  have Ol1 := X00.ext E1
  have K1 : Keep h0 h1 ([] : List Addr) := K0.ext E1
  refine OwnGoes.step (T' := T1) (g' := (mkF m 7 #[.val (.int p1)] [(.int (nar .byte p1)), (.int (0 : Int32)), (.ref b1), (.ref b1)])) (fun tgt kgo => ?_) ?_
  · show Steps p.tables e below (T1.setTop (mkF m 3 #[.val (.int p1)] [(.ref b1)])) tgt
    refine XS.dup X1.here hx rfl (hb hby dd_jdk_43_method_46_3) rfl rfl ?_
    show Steps p.tables e below (T1.setTop (mkF m 4 #[.val (.int p1)] [(.ref b1), (.ref b1)])) tgt
    refine XS.iconst X1.here hx rfl (hb hby dd_jdk_43_method_46_4) ?_
    show Steps p.tables e below (T1.setTop (mkF m 5 #[.val (.int p1)] [(.int (0 : Int32)), (.ref b1), (.ref b1)])) tgt
    refine XS.iloadN X1.here hx rfl (hb hby dd_jdk_43_method_46_5) rfl ?_
    show Steps p.tables e below (T1.setTop (mkF m 6 #[.val (.int p1)] [(.int p1), (.int (0 : Int32)), (.ref b1), (.ref b1)])) tgt
    refine XS.i2b X1.here hx rfl (hb hby dd_jdk_43_method_46_6) rfl ?_
    exact kgo
  obtain ⟨cl2, Ar2, q2, S2, M2, H2, G2⟩ := id V1
  obtain ⟨T2, h2, X2, e2, W2, st2⟩ := stB X1 hx hZ e1 Ar2 (j := (0 : Int32)) (inb_of S2 ⟨by decide, by decide⟩) (g := (mkF m 7 #[.val (.int p1)] [(.int (nar .byte p1)), (.int (0 : Int32)), (.ref b1), (.ref b1)])) rfl rfl (hb hby dd_jdk_43_method_46_7)
  refine OwnGoes.step (T' := T2) (g' := (mkF m 8 #[.val (.int p1)] [(.ref b1)])) st2 ?_
  have V2 : Arv Z h2 b1 k1 .byte (1 : Int32) [(.int (nar .byte (nar .byte p1)))] (.int (0 : Int32)) := Arv.set Ar2 q2 S2 M2 H2 G2 (fits_nar_byte _) W2 0 rfl (Nat.le_of_ble_eq_true rfl)
  rw [own_nar2_byte] at V2
  have V2' : Arv Z h2 b1 k1 .byte (1 : Int32) [(.int (nar .byte p1))] (.int (0 : Int32)) := V2
  have Ol2 := Ol1.wr W2 g_b1
  have K2 : Keep h0 h2 ([] : List Addr) := K1.wr W2 (Or.inr s_b1)
  have N2 := Fr.snoc X2 N0 g_b1
  have hret : ∀ fs, (∀ (f : JFrame) (acts : List Action), f.method = m → f.locked = none → f.entered = [] → (doReturn e (T2.setTop f) acts (some (.ref b1))).1 = T2.setFrames fs) → Steps p.tables e below (T2.setTop (mkF m 8 #[.val (.int p1)] [(.ref b1)])) (T2.setFrames fs) := by
    intro fs hr
    jvm_step X2.here [X2.here.top, hx, (hb hby dd_jdk_43_method_46_8), X2.method', Bd.returns, Value.isRef, FieldType.isReference]
    first | (intro acts; rw [hr _ acts rfl rfl rfl]) | rw [hr _ _ rfl rfl rfl]
    exact Steps.refl _
  refine own_leave X2 hlk (v := some (.ref b1)) (fun h => by rw [Bd.returns] at h; cases h) hret (by decide) (by decide) ?_
  show Q_tob Z p1 h0 n0 _ T2.heap _
  rw [e2]
  exact ⟨b1, k1, rfl, N2, K2, s_b1, V2'⟩
theorem ef_inibb (m : MethodId) (x0 : Addr) (x1 : Addr) : entryFrame m #[(.ref x0), (.ref x1), (.int (0 : Int32))] 3 = mkF m 0 #[.val (.ref x0), .val (.ref x1), .val (.int (0 : Int32))] [] := by first | (simp [entryFrame, mkF, argsToLocals, Value.category]; done) | rfl
def Q_inibb (Z : State) (a1 : Addr) (a2 : Addr) (u1 : Value) (u2 : Value) (h0 : Heap) (n0 : Nat) (v : Option Value) (h : Heap) (L : List Loc) : Prop := v = none ∧ Fr n0 L ∧ Keep h0 h ([a1] : List Addr) ∧ Exa Z h a1 "java/lang/String" ∧ Fld Z h a1 "java/lang/String" "value" "[B" (.ref a2) ∧ Fld Z h a1 "java/lang/String" "coder" "B" (.int (0 : Int32))
theorem pn_52039224 : plainName "java/lang/String" = true := by first | (simp [plainName, overriddenIn]; done) | decide +kernel
theorem dd_jdk_42_method_151_0 : decode jdk_42_method_151_code 0 = .ok (.aload_n 0, 1) := by decide +kernel
theorem dd_jdk_42_method_151_1 : decode jdk_42_method_151_code 1 = .ok (.invokespecial 1, 3) := by decide +kernel
theorem dd_jdk_42_method_151_4 : decode jdk_42_method_151_code 4 = .ok (.aload_n 0, 1) := by decide +kernel
theorem dd_jdk_42_method_151_5 : decode jdk_42_method_151_code 5 = .ok (.aload_n 1, 1) := by decide +kernel
theorem dd_jdk_42_method_151_6 : decode jdk_42_method_151_code 6 = .ok (.putfield 9, 3) := by decide +kernel
theorem dd_jdk_42_method_151_9 : decode jdk_42_method_151_code 9 = .ok (.aload_n 0, 1) := by decide +kernel
theorem dd_jdk_42_method_151_10 : decode jdk_42_method_151_code 10 = .ok (.iload_n 2, 1) := by decide +kernel
theorem dd_jdk_42_method_151_11 : decode jdk_42_method_151_code 11 = .ok (.putfield 15, 3) := by decide +kernel
theorem dd_jdk_42_method_151_14 : decode jdk_42_method_151_code 14 = .ok (.return_, 1) := by decide +kernel
set_option maxRecDepth 65536 in
set_option maxHeartbeats 40000000 in
theorem rm_inibb (l : Launch) (Z : State) (a0 : Array Value) (hw : ∀ d ∈ tables_1, d.before a0 Z = true) (ws : List Jvm.Cond) (wG1 : Int32) (wO2 : Sta Z Z.heap "java/lang/String" "COMPACT_STRINGS" "Z" (.int wG1)) (wP5 : ¬ (wG1 = (0 : Int32))) (wG3 : Value) (wO4 : Sta Z Z.heap "jdk/internal/util/Preconditions" "SIOOBE_FORMATTER" "Ljava/util/function/BiFunction;" wG3) (wrG3 : wG3.isRef = true) (hstr : ∀ a ∈ Bundle.stringAtoms, a.before a0 Z = true) (hEL : EW Z a0 consts_1) (h0 : Heap) (n0 : Nat) (X00 : Old Z n0 h0) (a1 : Addr) (a2 : Addr) (u1 : Value) (u2 : Value) (f0 : Exa Z h0 a1 "java/lang/String") (f1 : Fld Z h0 a1 "java/lang/String" "value" "[B" u1) (f2 : Fld Z h0 a1 "java/lang/String" "coder" "B" u2) (f3 : n0 ≤ a1) :
    MetFree l (⟨"java/lang/String", "<init>", "([BB)V"⟩ : MethodName) (head1 (Jvm.Cond.code (⟨"java/lang/String", "<init>", "([BB)V"⟩ : MethodName) jdk_42_method_151_code 3 none :: ws) ({ frames := 1, cells := 0, slots := 0, locals := 12 } : Room)) (fun a U => a = #[(.ref a1), (.ref a2), (.int (0 : Int32))] ∧ Z.Warmed39 U.vm ∧ U.heap = h0) (fun _ _ _ _ _ => True) (fun _ U o U' => ∃ v L, o = .returned v ∧ Q_inibb Z a1 a2 u1 u2 h0 n0 v U'.heap L ∧ FrameEnd U o U' L ({ frames := 1, cells := 0, slots := 0, locals := 12 } : Room).cells ({ frames := 1, cells := 0, slots := 0, locals := 12 } : Room).slots) := by
  refine MetFree.of_bodySF (plainFor_of_name pn_52039224) hisR ?_
  intro p e s m args below meth c s₁ Bd hml0 hP hK
  obtain ⟨rfl, hZ, hh⟩ := hP
  have hx := Bd.exec
  have hby := Bd.bytes
  have hlk := Bd.notSynchronized
  have hml : c.maxLocals = 3 := hml0
  have hown : s.vm.findClass "java/lang/String" = some m.cls := findClass_of_methodNamed Bd.named
  have hnm := (name_of_methodNamed Bd.named Bd.method).1
  have X0 : Stand p l e ({ frames := 1, cells := 0, slots := 0, locals := 12 } : Room) s m #[(.ref a1), (.ref a2), (.int (0 : Int32))] below meth c s₁ [] 0 0 := Stand.of_body Bd
  have e0 : s₁.heap = h0 := by rw [← hh, Bd.state]; rfl
  have N0 := Fr.nil n0
  have Z0 : n0 ≤ h0.size := X00.1 ▸ X00.2.1
  have K0 : Keep h0 h0 ([a1] : List Addr) := Keep.refl _ _
  show OwnGoes p e below (fun o U' => ∃ v L, o = .returned v ∧ Q_inibb Z a1 a2 u1 u2 h0 n0 v U'.heap L ∧ FrameEnd s o U' L ({ frames := 1, cells := 0, slots := 0, locals := 12 } : Room).cells ({ frames := 1, cells := 0, slots := 0, locals := 12 } : Room).slots) s₁ (entryFrame m #[(.ref a1), (.ref a2), (.int (0 : Int32))] 3)
  refine OwnGoes.step (T' := s₁) (g' := (mkF m 0 #[.val (.ref a1), .val (.ref a2), .val (.int (0 : Int32))] [])) (fun tgt kgo => castTop (ef_inibb m a1 a2) kgo) ?_
  refine OwnGoes.step (T' := s₁) (g' := (mkF m 1 #[.val (.ref a1), .val (.ref a2), .val (.int (0 : Int32))] [(.ref a1)])) (fun tgt kgo => ?_) ?_
  · show Steps p.tables e below (s₁.setTop (mkF m 0 #[.val (.ref a1), .val (.ref a2), .val (.int (0 : Int32))] [])) tgt
    refine XS.aloadN X0.here hx rfl (hb hby dd_jdk_42_method_151_0) rfl rfl ?_
    exact kgo
  obtain ⟨T1, X1, e1, st1⟩ := initO X0 hx hZ hown (hw _ (List.mem_of_getElem? (i := 15) rfl)) (hw _ (List.mem_of_getElem? (i := 16) rfl)) (hw _ (List.mem_of_getElem? (i := 17) rfl)) e0 (g := (mkF m 1 #[.val (.ref a1), .val (.ref a2), .val (.int (0 : Int32))] [(.ref a1)])) rfl (by rw [hml]; rfl) rfl (hb hby dd_jdk_42_method_151_1) (by decide) (W := 0) (by show 2 * 0 + _ ≤ _; exact Nat.le_of_eq rfl) (by decide)
  refine OwnGoes.step (T' := T1) (g' := (mkF m 4 #[.val (.ref a1), .val (.ref a2), .val (.int (0 : Int32))] [])) st1 ?_
  refine OwnGoes.step (T' := T1) (g' := (mkF m 6 #[.val (.ref a1), .val (.ref a2), .val (.int (0 : Int32))] [(.ref a2), (.ref a1)])) (fun tgt kgo => ?_) ?_
  · show Steps p.tables e below (T1.setTop (mkF m 4 #[.val (.ref a1), .val (.ref a2), .val (.int (0 : Int32))] [])) tgt
    refine XS.aloadN X1.here hx rfl (hb hby dd_jdk_42_method_151_4) rfl rfl ?_
    show Steps p.tables e below (T1.setTop (mkF m 5 #[.val (.ref a1), .val (.ref a2), .val (.int (0 : Int32))] [(.ref a1)])) tgt
    refine XS.aloadN X1.here hx rfl (hb hby dd_jdk_42_method_151_5) rfl rfl ?_
    exact kgo
  obtain ⟨T2, h2, X2, e2, W2, st2⟩ := putF X1 hx hZ hown (host := "") (Or.inl (hw _ (List.mem_of_getElem? (i := 32) rfl))) Via.refl e1 f1 f0 (Or.inr ⟨(hw _ (List.mem_of_getElem? (i := 33) rfl)), rfl, hnm⟩) (hw _ (List.mem_of_getElem? (i := 5) rfl)) (ty := (.array .byte)) (by decide) rfl rfl (g := (mkF m 6 #[.val (.ref a1), .val (.ref a2), .val (.int (0 : Int32))] [(.ref a2), (.ref a1)])) rfl rfl (hb hby dd_jdk_42_method_151_6)
  refine OwnGoes.step (T' := T2) (g' := (mkF m 9 #[.val (.ref a1), .val (.ref a2), .val (.int (0 : Int32))] [])) st2 ?_
  have Fw2 := f1.same W2
  have F2_1 := f0.wr W2
  have F2_2 := f2.other W2 (Or.inr (slot_ne (Or.inr (hw _ (List.mem_of_getElem? (i := 31) rfl))) (Or.inr (hw _ (List.mem_of_getElem? (i := 33) rfl))) (by decide) (t := .byte) (t' := (.array .byte)) (by decide) (by decide)))
  have Ol2 := X00.wr W2 f3
  have K2 : Keep h0 h2 ([a1] : List Addr) := K0.wr W2 (Or.inl (List.mem_of_getElem? (i := 0) rfl))
  have N2 := Fr.snoc X2 N0 f3
  refine OwnGoes.step (T' := T2) (g' := (mkF m 11 #[.val (.ref a1), .val (.ref a2), .val (.int (0 : Int32))] [(.int (0 : Int32)), (.ref a1)])) (fun tgt kgo => ?_) ?_
  · show Steps p.tables e below (T2.setTop (mkF m 9 #[.val (.ref a1), .val (.ref a2), .val (.int (0 : Int32))] [])) tgt
    refine XS.aloadN X2.here hx rfl (hb hby dd_jdk_42_method_151_9) rfl rfl ?_
    show Steps p.tables e below (T2.setTop (mkF m 10 #[.val (.ref a1), .val (.ref a2), .val (.int (0 : Int32))] [(.ref a1)])) tgt
    refine XS.iloadN X2.here hx rfl (hb hby dd_jdk_42_method_151_10) rfl ?_
    exact kgo
  obtain ⟨T3, h3, X3, e3, W3, st3⟩ := putFN X2 hx hZ hown (hw _ (List.mem_of_getElem? (i := 30) rfl)) Via.refl e2 F2_2 F2_1 (Or.inr ⟨(hw _ (List.mem_of_getElem? (i := 31) rfl)), rfl, hnm⟩) (hw _ (List.mem_of_getElem? (i := 5) rfl)) (ty := .byte) (v' := (.int (nar .byte (0 : Int32)))) (by decide) rfl (fits_nar_byte _) (g := (mkF m 11 #[.val (.ref a1), .val (.ref a2), .val (.int (0 : Int32))] [(.int (0 : Int32)), (.ref a1)])) rfl rfl (hb hby dd_jdk_42_method_151_11)
  refine OwnGoes.step (T' := T3) (g' := (mkF m 14 #[.val (.ref a1), .val (.ref a2), .val (.int (0 : Int32))] [])) st3 ?_
  have Fw3 := F2_2.same W3
  rw [(by decide : nar .byte (0 : Int32) = (0 : Int32))] at Fw3
  have F3_3 := F2_1.wr W3
  have F3_4 := Fw2.other W3 (Or.inr (slot_ne (Or.inr (hw _ (List.mem_of_getElem? (i := 33) rfl))) (Or.inr (hw _ (List.mem_of_getElem? (i := 31) rfl))) (by decide) (t := (.array .byte)) (t' := .byte) (by decide) (by decide)))
  have Ol3 := Ol2.wr W3 f3
  have K3 : Keep h0 h3 ([a1] : List Addr) := K2.wr W3 (Or.inl (List.mem_of_getElem? (i := 0) rfl))
  have N3 := Fr.snoc X3 N2 f3
  refine own_leave X3 hlk (v := none) (fun _ => rfl) (fun fs hr => X3.returnOut hx Bd.returns (hb hby dd_jdk_42_method_151_14) hr) (by decide) (by decide) ?_
  show Q_inibb Z a1 a2 u1 u2 h0 n0 _ T3.heap _
  rw [e3]
  exact ⟨rfl, N3, K3, F3_3, F3_4, Fw3⟩
theorem ef_valueOf (m : MethodId) (x0 : Int32) : entryFrame m #[(.int x0)] 1 = mkF m 0 #[.val (.int x0)] [] := by first | (simp [entryFrame, mkF, argsToLocals, Value.category]; done) | rfl
def Q_valueOf (Z : State) (p1 : Int32) (h0 : Heap) (n0 : Nat) (v : Option Value) (h : Heap) (L : List Loc) : Prop := ∃ (x : Addr), ∃ (t : Addr), ∃ (k : ClassId), v = some (.ref x) ∧ Fr n0 L ∧ Keep h0 h ([] : List Addr) ∧ h0.size ≤ x ∧ h0.size ≤ t ∧ Exa Z h x "java/lang/String" ∧ Fld Z h x "java/lang/String" "value" "[B" (.ref t) ∧ Fld Z h x "java/lang/String" "coder" "B" (.int (0 : Int32)) ∧ Arv Z h t k .byte (1 : Int32) [(.int (nar .byte p1))] (.int (0 : Int32))
theorem dd_jdk_42_method_139_0 : decode jdk_42_method_139_code 0 = .ok (.getstatic 38, 3) := by decide +kernel
theorem dd_jdk_42_method_139_3 : decode jdk_42_method_139_code 3 = .ok (.ifCond .eq 23, 3) := by decide +kernel
theorem dd_jdk_42_method_139_6 : decode jdk_42_method_139_code 6 = .ok (.iload_n 0, 1) := by decide +kernel
theorem dd_jdk_42_method_139_7 : decode jdk_42_method_139_code 7 = .ok (.invokestatic 1015, 3) := by decide +kernel
theorem pd_92619605 : parseMethodDescriptor "(C)Z" = some ⟨[.char], some .boolean⟩ := by decide +kernel
theorem dd_jdk_42_method_139_10 : decode jdk_42_method_139_code 10 = .ok (.ifCond .eq 16, 3) := by decide +kernel
theorem dd_jdk_42_method_139_13 : decode jdk_42_method_139_code 13 = .ok (.new 10, 3) := by decide +kernel
theorem dd_jdk_42_method_139_16 : decode jdk_42_method_139_code 16 = .ok (.dup, 1) := by decide +kernel
theorem dd_jdk_42_method_139_17 : decode jdk_42_method_139_code 17 = .ok (.iload_n 0, 1) := by decide +kernel
theorem dd_jdk_42_method_139_18 : decode jdk_42_method_139_code 18 = .ok (.invokestatic 1018, 3) := by decide +kernel
theorem pd_11350343 : parseMethodDescriptor "(C)[B" = some ⟨[.char], some (.array .byte)⟩ := by decide +kernel
theorem dd_jdk_42_method_139_21 : decode jdk_42_method_139_code 21 = .ok (.iconst 0, 1) := by decide +kernel
theorem dd_jdk_42_method_139_22 : decode jdk_42_method_139_code 22 = .ok (.invokespecial 209, 3) := by decide +kernel
theorem pd_44458512 : parseMethodDescriptor "([BB)V" = some ⟨[(.array .byte), .byte], none⟩ := by decide +kernel
theorem dd_jdk_42_method_139_25 : decode jdk_42_method_139_code 25 = .ok (.areturn, 1) := by decide +kernel
set_option maxRecDepth 65536 in
set_option maxHeartbeats 40000000 in
theorem rm_valueOf (l : Launch) (Z : State) (a0 : Array Value) (hw : ∀ d ∈ tables_1, d.before a0 Z = true) (ws : List Jvm.Cond) (wG1 : Int32) (wO2 : Sta Z Z.heap "java/lang/String" "COMPACT_STRINGS" "Z" (.int wG1)) (wP5 : ¬ (wG1 = (0 : Int32))) (wG3 : Value) (wO4 : Sta Z Z.heap "jdk/internal/util/Preconditions" "SIOOBE_FORMATTER" "Ljava/util/function/BiFunction;" wG3) (wrG3 : wG3.isRef = true) (hstr : ∀ a ∈ Bundle.stringAtoms, a.before a0 Z = true) (hEL : EW Z a0 consts_1) (h0 : Heap) (n0 : Nat) (X00 : Old Z n0 h0) (p1 : Int32) (hl : ¬ ((255 : Int32) < p1)) :
    MetFree l (⟨"java/lang/String", "valueOf", "(C)Ljava/lang/String;"⟩ : MethodName) (head1 (Jvm.Cond.code (⟨"java/lang/String", "valueOf", "(C)Ljava/lang/String;"⟩ : MethodName) jdk_42_method_139_code 1 (some (.object "java/lang/String")) :: ws) ({ frames := 2, cells := 2, slots := 5, locals := 27 } : Room)) (fun a U => a = #[(.int p1)] ∧ Z.Warmed39 U.vm ∧ U.heap = h0) (fun _ _ _ _ _ => True) (fun _ U o U' => ∃ v L, o = .returned v ∧ Q_valueOf Z p1 h0 n0 v U'.heap L ∧ FrameEnd U o U' L ({ frames := 2, cells := 2, slots := 5, locals := 27 } : Room).cells ({ frames := 2, cells := 2, slots := 5, locals := 27 } : Room).slots) := by
  refine MetFree.of_bodySF (plainFor_of_name pn_52039224) hisR ?_
  intro p e s m args below meth c s₁ Bd hml0 hP hK
  obtain ⟨rfl, hZ, hh⟩ := hP
  have hx := Bd.exec
  have hby := Bd.bytes
  have hlk := Bd.notSynchronized
  have hml : c.maxLocals = 1 := hml0
  have hown : s.vm.findClass "java/lang/String" = some m.cls := findClass_of_methodNamed Bd.named
  have hnm := (name_of_methodNamed Bd.named Bd.method).1
  have X0 : Stand p l e ({ frames := 2, cells := 2, slots := 5, locals := 27 } : Room) s m #[(.int p1)] below meth c s₁ [] 0 0 := Stand.of_body Bd
  have e0 : s₁.heap = h0 := by rw [← hh, Bd.state]; rfl
  have N0 := Fr.nil n0
  have Z0 : n0 ≤ h0.size := X00.1 ▸ X00.2.1
  have K0 : Keep h0 h0 ([] : List Addr) := Keep.refl _ _
  show OwnGoes p e below (fun o U' => ∃ v L, o = .returned v ∧ Q_valueOf Z p1 h0 n0 v U'.heap L ∧ FrameEnd s o U' L ({ frames := 2, cells := 2, slots := 5, locals := 27 } : Room).cells ({ frames := 2, cells := 2, slots := 5, locals := 27 } : Room).slots) s₁ (entryFrame m #[(.int p1)] 1)
  refine OwnGoes.step (T' := s₁) (g' := (mkF m 0 #[.val (.int p1)] [])) (fun tgt kgo => castTop (ef_valueOf m p1) kgo) ?_
  obtain ⟨T1, X1, e1, st1⟩ := getS2 X0 hx hZ hown (host := "") (Or.inl (hw _ (List.mem_of_getElem? (i := 18) rfl))) Via.refl e0 (wO2.ext X00.2) (g := (mkF m 0 #[.val (.int p1)] [])) rfl (hb hby dd_jdk_42_method_139_0)
  refine OwnGoes.step (T' := T1) (g' := (mkF m 3 #[.val (.int p1)] [(.int wG1)])) st1 ?_
  refine OwnGoes.step (T' := T1) (g' := (mkF m 7 #[.val (.int p1)] [(.int p1)])) (fun tgt kgo => ?_) ?_
  · show Steps p.tables e below (T1.setTop (mkF m 3 #[.val (.int p1)] [(.int wG1)])) tgt
    refine XS.ifNo X1.here hx rfl (hb hby dd_jdk_42_method_139_3) rfl ((if0 _ _).trans (feq wP5).1) ?_
    show Steps p.tables e below (T1.setTop (mkF m 6 #[.val (.int p1)] [])) tgt
    refine XS.iloadN X1.here hx rfl (hb hby dd_jdk_42_method_139_6) rfl ?_
    exact kgo
  obtain ⟨_, _, ⟨T2, L2, k2, n2⟩, -, X2, ⟨Lc2, hQ2, l2, y2, z2⟩, st2⟩ := Jvm.LawKit.callS X1 hx (y := (⟨"java/lang/StringLatin1", "canEncode", "(C)Z"⟩ : MethodName)) hown (mvT hZ (hw _ (List.mem_of_getElem? (i := 37) rfl))) (mvT hZ (hw _ (List.mem_of_getElem? (i := 38) rfl))) (mvT hZ (hw _ (List.mem_of_getElem? (i := 39) rfl))) (mvT hZ (hw _ (List.mem_of_getElem? (i := 40) rfl))) (by decide) (backOf (W := 0) (rm_can l Z a0 hw [] wG1 wO2 wP5 wG3 wO4 wrG3 hstr hEL h0 n0 X00 p1 hl) hZ (hw _ (List.mem_of_getElem? (i := 40) rfl)) (hw _ (List.mem_of_getElem? (i := 39) rfl)) (by decide) (by decide)) (g := (mkF m 7 #[.val (.int p1)] [(.int p1)])) rfl (by rw [hml]; rfl) (argsL := [(.int p1)]) (rest := []) (lenOf pd_92619605 rfl) rfl (by show 2 * 0 + _ ≤ _; exact Nat.le_of_eq rfl) (hb hby dd_jdk_42_method_139_7) (fun _ _ => ⟨rfl, e1, (by decide : 0 + 0 ≤ _), (by decide : 0 + 0 ≤ _)⟩)
  dsimp only [Pt.U, Pt.locs, Pt.cells, Pt.slots] at X2 l2 y2 z2 st2 hQ2
  subst l2 y2 z2
  obtain ⟨rfl, Nq2, eq2⟩ := hQ2
  refine OwnGoes.step (T' := T2) (g' := (mkF m 10 #[.val (.int p1)] [(.int (1 : Int32))])) st2 ?_
  have N2 := Fr.app N0 Nq2
  refine OwnGoes.step (T' := T2) (g' := (mkF m 13 #[.val (.int p1)] [])) (fun tgt kgo => ?_) ?_
  · show Steps p.tables e below (T2.setTop (mkF m 10 #[.val (.int p1)] [(.int (1 : Int32))])) tgt
    refine XS.ifNo X2.here hx rfl (hb hby dd_jdk_42_method_139_10) rfl ((if0 _ _).trans (feq (by decide : ¬ ((1 : Int32) = (0 : Int32)))).1) ?_
    exact kgo
  obtain ⟨T3, h3, X3, e3, E3, A3, D3, U3, st3⟩ := newO X2 hx hZ hown (hw _ (List.mem_of_getElem? (i := 41) rfl)) (hw _ (List.mem_of_getElem? (i := 5) rfl)) (hw _ (List.mem_of_getElem? (i := 6) rfl)) eq2 (g := (mkF m 13 #[.val (.int p1)] [])) rfl (hb hby dd_jdk_42_method_139_13) (by decide) (by decide)
  obtain ⟨b3, g3⟩ : ∃ z, z = h0.size := ⟨_, rfl⟩
  rw [← g3] at A3 D3 U3 st3
  refine OwnGoes.step (T' := T3) (g' := (mkF m 16 #[.val (.int p1)] [(.ref b3)])) st3 ?_
  have g_b3 : n0 ≤ b3 := Nat.le_trans (Nat.le_trans Z0 K0.1) (Nat.le_of_eq g3.symm)
  have s_b3 : h0.size ≤ b3 := Nat.le_trans K0.1 (Nat.le_of_eq g3.symm)
  have Ol3 := X00.ext E3
  have K3 : Keep h0 h3 ([] : List Addr) := K0.ext E3
  have F3_1 : Fld Z h3 b3 "java/lang/String" "coder" "B" (.int (0 : Int32)) := D3 (Or.inr (hw _ (List.mem_of_getElem? (i := 31) rfl))) (ty := .byte) (by decide)
  have F3_2 : Fld Z h3 b3 "java/lang/String" "value" "[B" .null := D3 (Or.inr (hw _ (List.mem_of_getElem? (i := 33) rfl))) (ty := (.array .byte)) (by decide)
  refine OwnGoes.step (T' := T3) (g' := (mkF m 18 #[.val (.int p1)] [(.int p1), (.ref b3), (.ref b3)])) (fun tgt kgo => ?_) ?_
  · show Steps p.tables e below (T3.setTop (mkF m 16 #[.val (.int p1)] [(.ref b3)])) tgt
    refine XS.dup X3.here hx rfl (hb hby dd_jdk_42_method_139_16) rfl rfl ?_
    show Steps p.tables e below (T3.setTop (mkF m 17 #[.val (.int p1)] [(.ref b3), (.ref b3)])) tgt
    refine XS.iloadN X3.here hx rfl (hb hby dd_jdk_42_method_139_17) rfl ?_
    exact kgo
  obtain ⟨_, _, ⟨T4, L4, k4, n4⟩, -, X4, ⟨Lc4, hQ4, l4, y4, z4⟩, st4⟩ := Jvm.LawKit.callS X3 hx (y := (⟨"java/lang/StringLatin1", "toBytes", "(C)[B"⟩ : MethodName)) hown (mvT hZ (hw _ (List.mem_of_getElem? (i := 42) rfl))) (mvT hZ (hw _ (List.mem_of_getElem? (i := 43) rfl))) (mvT hZ (hw _ (List.mem_of_getElem? (i := 39) rfl))) (mvT hZ (hw _ (List.mem_of_getElem? (i := 44) rfl))) (by decide) (backOf (W := 2) (rm_tob l Z a0 hw [] wG1 wO2 wP5 wG3 wO4 wrG3 hstr hEL h3 n0 Ol3 p1) hZ (hw _ (List.mem_of_getElem? (i := 44) rfl)) (hw _ (List.mem_of_getElem? (i := 39) rfl)) (by decide) (by decide)) (g := (mkF m 18 #[.val (.int p1)] [(.int p1), (.ref b3), (.ref b3)])) rfl (by rw [hml]; rfl) (argsL := [(.int p1)]) (rest := [(.ref b3), (.ref b3)]) (lenOf pd_11350343 rfl) rfl (by show 2 * 0 + _ ≤ _; exact Nat.le_of_eq rfl) (hb hby dd_jdk_42_method_139_18) (fun _ _ => ⟨rfl, e3, (by decide : 1 + 1 ≤ _), (by decide : 4 + 1 ≤ _)⟩)
  dsimp only [Pt.U, Pt.locs, Pt.cells, Pt.slots] at X4 l4 y4 z4 st4 hQ4
  subst l4 y4 z4
  obtain ⟨t_4, k_4, rfl, Nq4, Kq4, zq4_0, fq4_0⟩ := hQ4
  refine OwnGoes.step (T' := T4) (g' := (mkF m 21 #[.val (.int p1)] [(.ref t_4), (.ref b3), (.ref b3)])) st4 ?_
  have N4 := Fr.app N2 Nq4
  have ne_b3_t_4 : b3 ≠ t_4 := Nat.ne_of_lt (Nat.lt_of_lt_of_le A3.lt zq4_0)
  have g_t_4 : n0 ≤ t_4 := Nat.le_trans (Nat.le_trans Z0 K3.1) zq4_0
  have s_t_4 : h0.size ≤ t_4 := Nat.le_trans K3.1 zq4_0
  have F4_3 := A3.keep Kq4
  have F4_4 := F3_1.keep Kq4 nin0
  have F4_5 := F3_2.keep Kq4 nin0
  have Ol4 := Ol3.keep Kq4 all0
  have K4 : Keep h0 T4.heap ([] : List Addr) := K3.trans Kq4 all0
  refine OwnGoes.step (T' := T4) (g' := (mkF m 22 #[.val (.int p1)] [(.int (0 : Int32)), (.ref t_4), (.ref b3), (.ref b3)])) (fun tgt kgo => ?_) ?_
  · show Steps p.tables e below (T4.setTop (mkF m 21 #[.val (.int p1)] [(.ref t_4), (.ref b3), (.ref b3)])) tgt
    refine XS.iconst X4.here hx rfl (hb hby dd_jdk_42_method_139_21) ?_
    exact kgo
  obtain ⟨_, _, ⟨T5, L5, k5, n5⟩, -, X5, ⟨Lc5, hQ5, l5, y5, z5⟩, st5⟩ := X4.specialBack hx (y := (⟨"java/lang/String", "<init>", "([BB)V"⟩ : MethodName)) rfl hown (mvT hZ (hw _ (List.mem_of_getElem? (i := 45) rfl))) (mvT hZ (hw _ (List.mem_of_getElem? (i := 46) rfl))) (mvT hZ (hw _ (List.mem_of_getElem? (i := 47) rfl))) (by decide) (backOf (W := 1) (rm_inibb l Z a0 hw [] wG1 wO2 wP5 wG3 wO4 wrG3 hstr hEL T4.heap n0 Ol4 b3 t_4 .null (.int (0 : Int32)) F4_3 F4_5 F4_4 g_b3) hZ (hw _ (List.mem_of_getElem? (i := 47) rfl)) (hw _ (List.mem_of_getElem? (i := 6) rfl)) (by decide) (by decide)) (g := (mkF m 22 #[.val (.int p1)] [(.int (0 : Int32)), (.ref t_4), (.ref b3), (.ref b3)])) rfl (by rw [hml]; rfl) (Steps.refl _) (a := b3) (argsL := [(.ref t_4), (.int (0 : Int32))]) (rest := [(.ref b3)]) (lenOf pd_44458512 rfl) rfl (by show 2 * 0 + _ ≤ _; exact Nat.le_of_eq rfl) (hb hby dd_jdk_42_method_139_22) (fun _ _ => ⟨rfl, rfl, (by decide : 2 + 0 ≤ _), (by decide : 5 + 0 ≤ _)⟩)
  dsimp only [Pt.U, Pt.locs, Pt.cells, Pt.slots] at X5 l5 y5 z5 st5 hQ5
  subst l5 y5 z5
  obtain ⟨rfl, Nq5, Kq5, fq5_0, fq5_1, fq5_2⟩ := hQ5
  refine OwnGoes.tr (T' := T5) (g' := (mkF m 25 #[.val (.int p1)] [(.ref b3)])) st5 ?_
  have N5 := Fr.app N4 Nq5
  have F5_6 := F4_3.keep Kq5
  have F5_7 := fq4_0.keep Kq5 (ninS (Ne.symm ne_b3_t_4) nin0)
  have Ol5 := Ol4.keep Kq5 (allS g_b3 all0)
  have K5 : Keep h0 T5.heap ([] : List Addr) := K4.trans Kq5 (allS (Or.inr s_b3) all0)
  have hret : ∀ fs, (∀ (f : JFrame) (acts : List Action), f.method = m → f.locked = none → f.entered = [] → (doReturn e (T5.setTop f) acts (some (.ref b3))).1 = T5.setFrames fs) → Steps p.tables e below (T5.setTop (mkF m 25 #[.val (.int p1)] [(.ref b3)])) (T5.setFrames fs) := by
    intro fs hr
    jvm_step X5.here [X5.here.top, hx, (hb hby dd_jdk_42_method_139_25), X5.method', Bd.returns, Value.isRef, FieldType.isReference]
    first | (intro acts; rw [hr _ acts rfl rfl rfl]) | rw [hr _ _ rfl rfl rfl]
    exact Steps.refl _
  refine own_leave X5 hlk (v := some (.ref b3)) (fun h => by rw [Bd.returns] at h; cases h) hret (by decide) (by decide) ?_
  show Q_valueOf Z p1 h0 n0 _ T5.heap _
  exact ⟨b3, t_4, k_4, rfl, N5, K5, s_b3, s_t_4, fq5_0, fq5_1, fq5_2, F5_7⟩
theorem ef_si6e (m : MethodId) (x0 : Addr) (x1 : Addr) : entryFrame m #[(.ref x0), (.ref x1), (.int (0 : Int32)), (.int (0 : Int32)), .null] 6 = mkF m 0 #[.val (.ref x0), .val (.ref x1), .val (.int (0 : Int32)), .val (.int (0 : Int32)), .val .null, .unset] [] := by first | (simp [entryFrame, mkF, argsToLocals, Value.category]; done) | rfl
def Q_si6e (Z : State) (a1 : Addr) (b1 : Addr) (h0 : Heap) (n0 : Nat) (v : Option Value) (h : Heap) (L : List Loc) : Prop := ∃ (t : Addr), ∃ (k : ClassId), v = none ∧ Fr n0 L ∧ Keep h0 h ([a1] : List Addr) ∧ Exa Z h a1 "java/lang/String" ∧ Fld Z h a1 "java/lang/String" "value" "[B" (.ref t) ∧ Fld Z h a1 "java/lang/String" "coder" "B" (.int (0 : Int32)) ∧ Arv Z h t k .byte (0 : Int32) [] (.int (0 : Int32))
theorem dd_jdk_42_method_149_0 : decode jdk_42_method_149_code 0 = .ok (.aload_n 0, 1) := by decide +kernel
theorem dd_jdk_42_method_149_1 : decode jdk_42_method_149_code 1 = .ok (.invokespecial 1, 3) := by decide +kernel
theorem dd_jdk_42_method_149_4 : decode jdk_42_method_149_code 4 = .ok (.iload_n 3, 1) := by decide +kernel
theorem dd_jdk_42_method_149_5 : decode jdk_42_method_149_code 5 = .ok (.ifCond .ne 22, 3) := by decide +kernel
theorem dd_jdk_42_method_149_8 : decode jdk_42_method_149_code 8 = .ok (.aload_n 0, 1) := by decide +kernel
theorem dd_jdk_42_method_149_9 : decode jdk_42_method_149_code 9 = .ok (.ldc 7, 2) := by decide +kernel
theorem dd_jdk_42_method_149_11 : decode jdk_42_method_149_code 11 = .ok (.getfield 9, 3) := by decide +kernel
theorem dd_jdk_42_method_149_14 : decode jdk_42_method_149_code 14 = .ok (.putfield 9, 3) := by decide +kernel
theorem dd_jdk_42_method_149_17 : decode jdk_42_method_149_code 17 = .ok (.aload_n 0, 1) := by decide +kernel
theorem dd_jdk_42_method_149_18 : decode jdk_42_method_149_code 18 = .ok (.ldc 7, 2) := by decide +kernel
theorem dd_jdk_42_method_149_20 : decode jdk_42_method_149_code 20 = .ok (.getfield 15, 3) := by decide +kernel
theorem dd_jdk_42_method_149_23 : decode jdk_42_method_149_code 23 = .ok (.putfield 15, 3) := by decide +kernel
theorem dd_jdk_42_method_149_26 : decode jdk_42_method_149_code 26 = .ok (.return_, 1) := by decide +kernel
set_option maxRecDepth 65536 in
set_option maxHeartbeats 40000000 in
theorem rm_si6e (l : Launch) (Z : State) (a0 : Array Value) (hw : ∀ d ∈ tables_1, d.before a0 Z = true) (ws : List Jvm.Cond) (wG1 : Int32) (wO2 : Sta Z Z.heap "java/lang/String" "COMPACT_STRINGS" "Z" (.int wG1)) (wP5 : ¬ (wG1 = (0 : Int32))) (wG3 : Value) (wO4 : Sta Z Z.heap "jdk/internal/util/Preconditions" "SIOOBE_FORMATTER" "Ljava/util/function/BiFunction;" wG3) (wrG3 : wG3.isRef = true) (hstr : ∀ a ∈ Bundle.stringAtoms, a.before a0 Z = true) (hEL : EW Z a0 consts_1) (h0 : Heap) (n0 : Nat) (X00 : Old Z n0 h0) (a1 : Addr) (b1 : Addr) (f0 : Exa Z h0 a1 "java/lang/String") (f1 : Fld Z h0 a1 "java/lang/String" "value" "[B" .null) (f2 : Fld Z h0 a1 "java/lang/String" "coder" "B" (.int (0 : Int32))) (f3 : n0 ≤ a1) :
    MetFree l (⟨"java/lang/String", "<init>", "([CIILjava/lang/Void;)V"⟩ : MethodName) (head1 (Jvm.Cond.code (⟨"java/lang/String", "<init>", "([CIILjava/lang/Void;)V"⟩ : MethodName) jdk_42_method_149_code 6 none :: ws) ({ frames := 1, cells := 4, slots := 8, locals := 12 } : Room)) (fun a U => a = #[(.ref a1), (.ref b1), (.int (0 : Int32)), (.int (0 : Int32)), .null] ∧ Z.Warmed39 U.vm ∧ U.heap = h0 ∧ CHv Z consts_1 U.vm h0) (fun _ _ _ _ _ => True) (fun _ U o U' => ∃ v L, o = .returned v ∧ Q_si6e Z a1 b1 h0 n0 v U'.heap L ∧ CHr Z consts_1 U.vm U.heap U'.vm U'.heap ∧ ReturnedEndW U o U' L ({ frames := 1, cells := 4, slots := 8, locals := 12 } : Room).cells ({ frames := 1, cells := 4, slots := 8, locals := 12 } : Room).slots) := by
  refine MetFree.of_bodySF (plainFor_of_name pn_52039224) hisR ?_
  intro p e s m args below meth c s₁ Bd hml0 hP hK
  obtain ⟨rfl, hZ, hh, hH⟩ := hP
  have hx := Bd.exec
  have hby := Bd.bytes
  have hlk := Bd.notSynchronized
  have hml : c.maxLocals = 6 := hml0
  have hown : s.vm.findClass "java/lang/String" = some m.cls := findClass_of_methodNamed Bd.named
  have hnm := (name_of_methodNamed Bd.named Bd.method).1
  have X0 : Stand p l e ({ frames := 1, cells := 4, slots := 8, locals := 12 } : Room) (s.setVm s.vm) m #[(.ref a1), (.ref b1), (.int (0 : Int32)), (.int (0 : Int32)), .null] below meth c s₁ [] 0 0 := Stand.of_body Bd
  have e0 : s₁.heap = h0 := by rw [← hh, Bd.state]; rfl
  have N0 := Fr.nil n0
  have Z0 : n0 ≤ h0.size := X00.1 ▸ X00.2.1
  have K0 : Keep h0 h0 ([a1] : List Addr) := Keep.refl _ _
  have R0 : CHr Z consts_1 s.vm h0 s.vm h0 := CHr.refl hH
  have hS0 : s.Since s.vm h0.size := State.WarmedH.since (State.WarmedH.refl s) _
  have hk0 : h0.size ≤ h0.size := Nat.le_refl _
  have Sf0_a1 : Safe Z consts_1 s.vm h0 a1 := (own_safe_null (vm := s.vm) hZ.alike (hw _ (List.mem_of_getElem? (i := 5) rfl)) f0 f1)
  show OwnGoes p e below (fun o U' => ∃ v L, o = .returned v ∧ Q_si6e Z a1 b1 h0 n0 v U'.heap L ∧ CHr Z consts_1 s.vm s.heap U'.vm U'.heap ∧ ReturnedEndW s o U' L ({ frames := 1, cells := 4, slots := 8, locals := 12 } : Room).cells ({ frames := 1, cells := 4, slots := 8, locals := 12 } : Room).slots) s₁ (entryFrame m #[(.ref a1), (.ref b1), (.int (0 : Int32)), (.int (0 : Int32)), .null] 6)
  refine OwnGoes.step (T' := s₁) (g' := (mkF m 0 #[.val (.ref a1), .val (.ref b1), .val (.int (0 : Int32)), .val (.int (0 : Int32)), .val .null, .unset] [])) (fun tgt kgo => castTop (ef_si6e m a1 b1) kgo) ?_
  refine OwnGoes.step (T' := s₁) (g' := (mkF m 1 #[.val (.ref a1), .val (.ref b1), .val (.int (0 : Int32)), .val (.int (0 : Int32)), .val .null, .unset] [(.ref a1)])) (fun tgt kgo => ?_) ?_
  · show Steps p.tables e below (s₁.setTop (mkF m 0 #[.val (.ref a1), .val (.ref b1), .val (.int (0 : Int32)), .val (.int (0 : Int32)), .val .null, .unset] [])) tgt
    refine XS.aloadN X0.here hx rfl (hb hby dd_jdk_42_method_149_0) rfl rfl ?_
    exact kgo
  obtain ⟨T1, X1, e1, st1⟩ := initO X0 hx hZ hown (hw _ (List.mem_of_getElem? (i := 15) rfl)) (hw _ (List.mem_of_getElem? (i := 16) rfl)) (hw _ (List.mem_of_getElem? (i := 17) rfl)) e0 (g := (mkF m 1 #[.val (.ref a1), .val (.ref b1), .val (.int (0 : Int32)), .val (.int (0 : Int32)), .val .null, .unset] [(.ref a1)])) rfl (by rw [hml]; rfl) rfl (hb hby dd_jdk_42_method_149_1) (by decide) (W := 0) (by show 2 * 0 + _ ≤ _; exact Nat.le_of_eq rfl) (by decide)
  refine OwnGoes.step (T' := T1) (g' := (mkF m 4 #[.val (.ref a1), .val (.ref b1), .val (.int (0 : Int32)), .val (.int (0 : Int32)), .val .null, .unset] [])) st1 ?_
  refine OwnGoes.step (T' := T1) (g' := (mkF m 9 #[.val (.ref a1), .val (.ref b1), .val (.int (0 : Int32)), .val (.int (0 : Int32)), .val .null, .unset] [(.ref a1)])) (fun tgt kgo => ?_) ?_
  · show Steps p.tables e below (T1.setTop (mkF m 4 #[.val (.ref a1), .val (.ref b1), .val (.int (0 : Int32)), .val (.int (0 : Int32)), .val .null, .unset] [])) tgt
    refine XS.iloadN X1.here hx rfl (hb hby dd_jdk_42_method_149_4) rfl ?_
    show Steps p.tables e below (T1.setTop (mkF m 5 #[.val (.ref a1), .val (.ref b1), .val (.int (0 : Int32)), .val (.int (0 : Int32)), .val .null, .unset] [(.int (0 : Int32))])) tgt
    refine XS.ifNo X1.here hx rfl (hb hby dd_jdk_42_method_149_5) rfl ((if0 _ _).trans (teq (by decide : (0 : Int32) = (0 : Int32))).2) ?_
    show Steps p.tables e below (T1.setTop (mkF m 8 #[.val (.ref a1), .val (.ref b1), .val (.int (0 : Int32)), .val (.int (0 : Int32)), .val .null, .unset] [])) tgt
    refine XS.aloadN X1.here hx rfl (hb hby dd_jdk_42_method_149_8) rfl rfl ?_
    exact kgo
  obtain ⟨b2, T2, h2, kk2, t2, k2, X2, e2, E2, hS2, hk2, hZ2, ho2, A2, Fc2, Fv2, V2, lt2, lu2, Rc2, Lt2, ns2, st2⟩ := ldcCH X1 hx hZ hown (hw _ (List.mem_of_getElem? (i := 124) rfl)) hstr e1 hS0 hk0 hEL (by decide) R0.1 (vs := []) (z := (0 : Int32)) (by decide +kernel) (by decide) (by decide +kernel) (g := (mkF m 9 #[.val (.ref a1), .val (.ref b1), .val (.int (0 : Int32)), .val (.int (0 : Int32)), .val .null, .unset] [(.ref a1)])) rfl (hb hby dd_jdk_42_method_149_9) (n := 0) (by decide) (by decide) (by decide) (by decide)
  refine OwnGoes.step (T' := T2) (g' := (mkF m 11 #[.val (.ref a1), .val (.ref b1), .val (.int (0 : Int32)), .val (.int (0 : Int32)), .val .null, .unset] [(.ref b2), (.ref a1)])) st2 ?_
  have F2_1 := f0.ext E2
  have F2_2 := f1.ext E2
  have F2_3 := f2.ext E2
  have F2_4 := Rc2.safe f0.lt Sf0_a1
  have Ol2 := X00.ext E2
  have K2 : Keep h0 h2 ([a1] : List Addr) := K0.ext E2
  have R2 := R0.trans Rc2
  have nl2_a1 := ns2 _ F2_4
  obtain ⟨T3, X3, e3, st3⟩ := getF X2 hx hZ2 ho2 (host := "") (Or.inl (hw _ (List.mem_of_getElem? (i := 32) rfl))) Via.refl e2 Fv2 (g := (mkF m 11 #[.val (.ref a1), .val (.ref b1), .val (.int (0 : Int32)), .val (.int (0 : Int32)), .val .null, .unset] [(.ref b2), (.ref a1)])) rfl rfl (hb hby dd_jdk_42_method_149_11)
  refine OwnGoes.step (T' := T3) (g' := (mkF m 14 #[.val (.ref a1), .val (.ref b1), .val (.int (0 : Int32)), .val (.int (0 : Int32)), .val .null, .unset] [(.ref t2), (.ref a1)])) st3 ?_
  obtain ⟨T4, h4, X4, e4, W4, st4⟩ := putF X3 hx hZ2 ho2 (host := "") (Or.inl (hw _ (List.mem_of_getElem? (i := 32) rfl))) Via.refl e3 F2_2 F2_1 (Or.inr ⟨(hw _ (List.mem_of_getElem? (i := 33) rfl)), rfl, hnm⟩) (hw _ (List.mem_of_getElem? (i := 5) rfl)) (ty := (.array .byte)) (by decide) rfl rfl (g := (mkF m 14 #[.val (.ref a1), .val (.ref b1), .val (.int (0 : Int32)), .val (.int (0 : Int32)), .val .null, .unset] [(.ref t2), (.ref a1)])) rfl rfl (hb hby dd_jdk_42_method_149_14)
  refine OwnGoes.step (T' := T4) (g' := (mkF m 17 #[.val (.ref a1), .val (.ref b1), .val (.int (0 : Int32)), .val (.int (0 : Int32)), .val .null, .unset] [])) st4 ?_
  have Fw4 := F2_2.same W4
  have F4_5 := F2_1.wr W4
  have F4_6 := F2_3.other W4 (Or.inr (slot_ne (Or.inr (hw _ (List.mem_of_getElem? (i := 31) rfl))) (Or.inr (hw _ (List.mem_of_getElem? (i := 33) rfl))) (by decide) (t := .byte) (t' := (.array .byte)) (by decide) (by decide)))
  have F4_7 := Safe.wr W4 F2_4 R2.1 F2_4
  have F4_8 := A2.wr W4
  have F4_9 := Fc2.other W4 (Or.inl (Ne.symm nl2_a1.1))
  have F4_10 := Fv2.other W4 (Or.inl (Ne.symm nl2_a1.1))
  have F4_11 := V2.other W4 (Ne.symm nl2_a1.2)
  have Ol4 := Ol2.wr W4 f3
  have K4 : Keep h0 h4 ([a1] : List Addr) := K2.wr W4 (Or.inl (List.mem_of_getElem? (i := 0) rfl))
  have R4 := R2.trans (CHr.wr W4 F2_4 R2.1)
  have hk4 := Nat.le_trans hk2 (Keep.of_wr W4).1
  have N4 := Fr.snoc X4 N0 f3
  refine OwnGoes.step (T' := T4) (g' := (mkF m 18 #[.val (.ref a1), .val (.ref b1), .val (.int (0 : Int32)), .val (.int (0 : Int32)), .val .null, .unset] [(.ref a1)])) (fun tgt kgo => ?_) ?_
  · show Steps p.tables e below (T4.setTop (mkF m 17 #[.val (.ref a1), .val (.ref b1), .val (.int (0 : Int32)), .val (.int (0 : Int32)), .val .null, .unset] [])) tgt
    refine XS.aloadN X4.here hx rfl (hb hby dd_jdk_42_method_149_17) rfl rfl ?_
    exact kgo
  obtain ⟨b5, T5, h5, kk5, t5, k5, X5, e5, E5, hS5, hk5, hZ5, ho5, A5, Fc5, Fv5, V5, lt5, lu5, Rc5, Lt5, ns5, st5⟩ := ldcCH X4 hx hZ2 ho2 (hw _ (List.mem_of_getElem? (i := 124) rfl)) hstr e4 hS2 hk4 hEL (by decide) R4.1 (vs := []) (z := (0 : Int32)) (by decide +kernel) (by decide) (by decide +kernel) (g := (mkF m 18 #[.val (.ref a1), .val (.ref b1), .val (.int (0 : Int32)), .val (.int (0 : Int32)), .val .null, .unset] [(.ref a1)])) rfl (hb hby dd_jdk_42_method_149_18) (n := 0) (by decide) (by decide) (by decide) (by decide)
  refine OwnGoes.step (T' := T5) (g' := (mkF m 20 #[.val (.ref a1), .val (.ref b1), .val (.int (0 : Int32)), .val (.int (0 : Int32)), .val .null, .unset] [(.ref b5), (.ref a1)])) st5 ?_
  have F5_12 := F4_5.ext E5
  have F5_13 := Fw4.ext E5
  have F5_14 := F4_6.ext E5
  have F5_15 := Rc5.safe F4_5.lt F4_7
  have F5_16 := F4_8.ext E5
  have F5_17 := F4_9.ext E5
  have F5_18 := F4_10.ext E5
  have F5_19 := F4_11.ext E5
  have Ol5 := Ol4.ext E5
  have K5 : Keep h0 h5 ([a1] : List Addr) := K4.ext E5
  have R5 := R4.trans Rc5
  have nl5_a1 := ns5 _ F5_15
  obtain ⟨T6, X6, e6, st6⟩ := getF X5 hx hZ5 ho5 (host := "") (Or.inl (hw _ (List.mem_of_getElem? (i := 30) rfl))) Via.refl e5 Fc5 (g := (mkF m 20 #[.val (.ref a1), .val (.ref b1), .val (.int (0 : Int32)), .val (.int (0 : Int32)), .val .null, .unset] [(.ref b5), (.ref a1)])) rfl rfl (hb hby dd_jdk_42_method_149_20)
  refine OwnGoes.step (T' := T6) (g' := (mkF m 23 #[.val (.ref a1), .val (.ref b1), .val (.int (0 : Int32)), .val (.int (0 : Int32)), .val .null, .unset] [(.int (0 : Int32)), (.ref a1)])) st6 ?_
  obtain ⟨T7, h7, X7, e7, W7, st7⟩ := putFN X6 hx hZ5 ho5 (hw _ (List.mem_of_getElem? (i := 30) rfl)) Via.refl e6 F5_14 F5_12 (Or.inr ⟨(hw _ (List.mem_of_getElem? (i := 31) rfl)), rfl, hnm⟩) (hw _ (List.mem_of_getElem? (i := 5) rfl)) (ty := .byte) (v' := (.int (nar .byte (0 : Int32)))) (by decide) rfl (fits_nar_byte _) (g := (mkF m 23 #[.val (.ref a1), .val (.ref b1), .val (.int (0 : Int32)), .val (.int (0 : Int32)), .val .null, .unset] [(.int (0 : Int32)), (.ref a1)])) rfl rfl (hb hby dd_jdk_42_method_149_23)
  refine OwnGoes.step (T' := T7) (g' := (mkF m 26 #[.val (.ref a1), .val (.ref b1), .val (.int (0 : Int32)), .val (.int (0 : Int32)), .val .null, .unset] [])) st7 ?_
  have Fw7 := F5_14.same W7
  rw [(by decide : nar .byte (0 : Int32) = (0 : Int32))] at Fw7
  have F7_20 := F5_12.wr W7
  have F7_21 := F5_13.other W7 (Or.inr (slot_ne (Or.inr (hw _ (List.mem_of_getElem? (i := 33) rfl))) (Or.inr (hw _ (List.mem_of_getElem? (i := 31) rfl))) (by decide) (t := (.array .byte)) (t' := .byte) (by decide) (by decide)))
  have F7_22 := Safe.wr W7 F5_15 R5.1 F5_15
  have F7_23 := F5_16.wr W7
  have F7_24 := F5_17.other W7 (Or.inl (Ne.symm nl2_a1.1))
  have F7_25 := F5_18.other W7 (Or.inl (Ne.symm nl2_a1.1))
  have F7_26 := F5_19.other W7 (Ne.symm nl2_a1.2)
  have F7_27 := A5.wr W7
  have F7_28 := Fc5.other W7 (Or.inl (Ne.symm nl5_a1.1))
  have F7_29 := Fv5.other W7 (Or.inl (Ne.symm nl5_a1.1))
  have F7_30 := V5.other W7 (Ne.symm nl5_a1.2)
  have Ol7 := Ol5.wr W7 f3
  have K7 : Keep h0 h7 ([a1] : List Addr) := K5.wr W7 (Or.inl (List.mem_of_getElem? (i := 0) rfl))
  have R7 := R5.trans (CHr.wr W7 F5_15 R5.1)
  have hk7 := Nat.le_trans hk5 (Keep.of_wr W7).1
  have N7 := Fr.snoc X7 N4 f3
  refine own_leaveW (Z := Z) (EL := consts_1) X7 hS5 (e7 ▸ hk7) hlk (v := none) (fun _ => rfl) (fun fs hr => X7.returnOut hx Bd.returns (hb hby dd_jdk_42_method_149_26) hr) (by decide) (by decide) ?_ ?_
  · rw [hh, e7]
    exact R7.trans (CHv.at X7 hZ5 hEL R7.1)
  show Q_si6e Z a1 b1 h0 n0 _ T7.heap _
  rw [e7]
  exact ⟨t2, k2, rfl, N7, K7, F7_20, F7_21, Fw7, F7_26⟩
theorem ef_si2e (m : MethodId) (x0 : Addr) (x1 : Addr) : entryFrame m #[(.ref x0), (.ref x1)] 2 = mkF m 0 #[.val (.ref x0), .val (.ref x1)] [] := by first | (simp [entryFrame, mkF, argsToLocals, Value.category]; done) | rfl
def Q_si2e (Z : State) (a1 : Addr) (b1 : Addr) (kc : ClassId) (h0 : Heap) (n0 : Nat) (v : Option Value) (h : Heap) (L : List Loc) : Prop := ∃ (t : Addr), ∃ (k : ClassId), v = none ∧ Fr n0 L ∧ Keep h0 h ([a1] : List Addr) ∧ Exa Z h a1 "java/lang/String" ∧ Fld Z h a1 "java/lang/String" "value" "[B" (.ref t) ∧ Fld Z h a1 "java/lang/String" "coder" "B" (.int (0 : Int32)) ∧ Arv Z h t k .byte (0 : Int32) [] (.int (0 : Int32))
theorem dd_jdk_42_method_3_0 : decode jdk_42_method_3_code 0 = .ok (.aload_n 0, 1) := by decide +kernel
theorem dd_jdk_42_method_3_1 : decode jdk_42_method_3_code 1 = .ok (.aload_n 1, 1) := by decide +kernel
theorem dd_jdk_42_method_3_2 : decode jdk_42_method_3_code 2 = .ok (.iconst 0, 1) := by decide +kernel
theorem dd_jdk_42_method_3_3 : decode jdk_42_method_3_code 3 = .ok (.aload_n 1, 1) := by decide +kernel
theorem dd_jdk_42_method_3_4 : decode jdk_42_method_3_code 4 = .ok (.arraylength, 1) := by decide +kernel
theorem dd_jdk_42_method_3_5 : decode jdk_42_method_3_code 5 = .ok (.aconst_null, 1) := by decide +kernel
theorem dd_jdk_42_method_3_6 : decode jdk_42_method_3_code 6 = .ok (.invokespecial 27, 3) := by decide +kernel
theorem pd_10261703 : parseMethodDescriptor "([CIILjava/lang/Void;)V" = some ⟨[(.array .char), .int, .int, (.object "java/lang/Void")], none⟩ := by decide +kernel
theorem dd_jdk_42_method_3_9 : decode jdk_42_method_3_code 9 = .ok (.return_, 1) := by decide +kernel
set_option maxRecDepth 65536 in
set_option maxHeartbeats 40000000 in
theorem rm_si2e (l : Launch) (Z : State) (a0 : Array Value) (hw : ∀ d ∈ tables_1, d.before a0 Z = true) (ws : List Jvm.Cond) (wG1 : Int32) (wO2 : Sta Z Z.heap "java/lang/String" "COMPACT_STRINGS" "Z" (.int wG1)) (wP5 : ¬ (wG1 = (0 : Int32))) (wG3 : Value) (wO4 : Sta Z Z.heap "jdk/internal/util/Preconditions" "SIOOBE_FORMATTER" "Ljava/util/function/BiFunction;" wG3) (wrG3 : wG3.isRef = true) (hstr : ∀ a ∈ Bundle.stringAtoms, a.before a0 Z = true) (hEL : EW Z a0 consts_1) (h0 : Heap) (n0 : Nat) (X00 : Old Z n0 h0) (a1 : Addr) (b1 : Addr) (kc : ClassId) (f0 : Exa Z h0 a1 "java/lang/String") (f1 : Fld Z h0 a1 "java/lang/String" "value" "[B" .null) (f2 : Fld Z h0 a1 "java/lang/String" "coder" "B" (.int (0 : Int32))) (f3 : n0 ≤ a1) (f4 : Arv Z h0 b1 kc .char (0 : Int32) [] (.int (0 : Int32))) :
    MetFree l (⟨"java/lang/String", "<init>", "([C)V"⟩ : MethodName) (head1 (Jvm.Cond.code (⟨"java/lang/String", "<init>", "([C)V"⟩ : MethodName) jdk_42_method_3_code 2 none :: ws) ({ frames := 2, cells := 4, slots := 8, locals := 29 } : Room)) (fun a U => a = #[(.ref a1), (.ref b1)] ∧ Z.Warmed39 U.vm ∧ U.heap = h0 ∧ CHv Z consts_1 U.vm h0) (fun _ _ _ _ _ => True) (fun _ U o U' => ∃ v L, o = .returned v ∧ Q_si2e Z a1 b1 kc h0 n0 v U'.heap L ∧ CHr Z consts_1 U.vm U.heap U'.vm U'.heap ∧ ReturnedEndW U o U' L ({ frames := 2, cells := 4, slots := 8, locals := 29 } : Room).cells ({ frames := 2, cells := 4, slots := 8, locals := 29 } : Room).slots) := by
  refine MetFree.of_bodySF (plainFor_of_name pn_52039224) hisR ?_
  intro p e s m args below meth c s₁ Bd hml0 hP hK
  obtain ⟨rfl, hZ, hh, hH⟩ := hP
  have hx := Bd.exec
  have hby := Bd.bytes
  have hlk := Bd.notSynchronized
  have hml : c.maxLocals = 2 := hml0
  have hown : s.vm.findClass "java/lang/String" = some m.cls := findClass_of_methodNamed Bd.named
  have hnm := (name_of_methodNamed Bd.named Bd.method).1
  have X0 : Stand p l e ({ frames := 2, cells := 4, slots := 8, locals := 29 } : Room) (s.setVm s.vm) m #[(.ref a1), (.ref b1)] below meth c s₁ [] 0 0 := Stand.of_body Bd
  have e0 : s₁.heap = h0 := by rw [← hh, Bd.state]; rfl
  have N0 := Fr.nil n0
  have Z0 : n0 ≤ h0.size := X00.1 ▸ X00.2.1
  have K0 : Keep h0 h0 ([a1] : List Addr) := Keep.refl _ _
  have R0 : CHr Z consts_1 s.vm h0 s.vm h0 := CHr.refl hH
  have hS0 : s.Since s.vm h0.size := State.WarmedH.since (State.WarmedH.refl s) _
  have hk0 : h0.size ≤ h0.size := Nat.le_refl _
  have Sf0_a1 : Safe Z consts_1 s.vm h0 a1 := (own_safe_null (vm := s.vm) hZ.alike (hw _ (List.mem_of_getElem? (i := 5) rfl)) f0 f1)
  show OwnGoes p e below (fun o U' => ∃ v L, o = .returned v ∧ Q_si2e Z a1 b1 kc h0 n0 v U'.heap L ∧ CHr Z consts_1 s.vm s.heap U'.vm U'.heap ∧ ReturnedEndW s o U' L ({ frames := 2, cells := 4, slots := 8, locals := 29 } : Room).cells ({ frames := 2, cells := 4, slots := 8, locals := 29 } : Room).slots) s₁ (entryFrame m #[(.ref a1), (.ref b1)] 2)
  refine OwnGoes.step (T' := s₁) (g' := (mkF m 0 #[.val (.ref a1), .val (.ref b1)] [])) (fun tgt kgo => castTop (ef_si2e m a1 b1) kgo) ?_
  refine OwnGoes.step (T' := s₁) (g' := (mkF m 6 #[.val (.ref a1), .val (.ref b1)] [.null, (.int (0 : Int32)), (.int (0 : Int32)), (.ref b1), (.ref a1)])) (fun tgt kgo => ?_) ?_
  · show Steps p.tables e below (s₁.setTop (mkF m 0 #[.val (.ref a1), .val (.ref b1)] [])) tgt
    refine XS.aloadN X0.here hx rfl (hb hby dd_jdk_42_method_3_0) rfl rfl ?_
    show Steps p.tables e below (s₁.setTop (mkF m 1 #[.val (.ref a1), .val (.ref b1)] [(.ref a1)])) tgt
    refine XS.aloadN X0.here hx rfl (hb hby dd_jdk_42_method_3_1) rfl rfl ?_
    show Steps p.tables e below (s₁.setTop (mkF m 2 #[.val (.ref a1), .val (.ref b1)] [(.ref b1), (.ref a1)])) tgt
    refine XS.iconst X0.here hx rfl (hb hby dd_jdk_42_method_3_2) ?_
    show Steps p.tables e below (s₁.setTop (mkF m 3 #[.val (.ref a1), .val (.ref b1)] [(.int (0 : Int32)), (.ref b1), (.ref a1)])) tgt
    refine XS.aloadN X0.here hx rfl (hb hby dd_jdk_42_method_3_3) rfl rfl ?_
    show Steps p.tables e below (s₁.setTop (mkF m 4 #[.val (.ref a1), .val (.ref b1)] [(.ref b1), (.int (0 : Int32)), (.ref b1), (.ref a1)])) tgt
    obtain ⟨cl1, Ar1, q1, S1, M1, -, -⟩ := f4
    refine X0.arraylength hx (by rw [e0]; exact Ar1.1) (State.isArrayOf_alike hZ.alike Ar1.2.1) (g := (mkF m 4 #[.val (.ref a1), .val (.ref b1)] [(.ref b1), (.int (0 : Int32)), (.ref b1), (.ref a1)])) rfl rfl (hb hby dd_jdk_42_method_3_4) _ ?_
    rw [len_of S1 M1]
    show Steps p.tables e below (s₁.setTop (mkF m 5 #[.val (.ref a1), .val (.ref b1)] [(.int (0 : Int32)), (.int (0 : Int32)), (.ref b1), (.ref a1)])) tgt
    refine XS.aconstNull X0.here hx rfl (hb hby dd_jdk_42_method_3_5) ?_
    exact kgo
  obtain ⟨_, _, ⟨T2, L2, k2, n2⟩, -, X2, Si2, Gr2, ⟨Lc2, hQ2, l2, y2, z2, Rc2⟩, st2⟩ := X0.specialBackS hx (y := (⟨"java/lang/String", "<init>", "([CIILjava/lang/Void;)V"⟩ : MethodName)) rfl hown (mvT hZ (hw _ (List.mem_of_getElem? (i := 11) rfl))) (mvT hZ (hw _ (List.mem_of_getElem? (i := 12) rfl))) (mvT hZ (hw _ (List.mem_of_getElem? (i := 14) rfl))) (by decide) (backOfSH (W := 0) (rm_si6e l Z a0 hw [] wG1 wO2 wP5 wG3 wO4 wrG3 hstr hEL h0 n0 X00 a1 b1 f0 f1 f2 f3) hZ (hw _ (List.mem_of_getElem? (i := 14) rfl)) (hw _ (List.mem_of_getElem? (i := 6) rfl)) (by decide) (by decide) hEL R0.1) (g := (mkF m 6 #[.val (.ref a1), .val (.ref b1)] [.null, (.int (0 : Int32)), (.int (0 : Int32)), (.ref b1), (.ref a1)])) rfl (by rw [hml]; rfl) (Steps.refl _) (a := a1) (argsL := [(.ref b1), (.int (0 : Int32)), (.int (0 : Int32)), .null]) (rest := []) (lenOf pd_10261703 rfl) rfl (by show 2 * 0 + _ ≤ _; exact Nat.le_of_eq rfl) (hb hby dd_jdk_42_method_3_6) (fun _ _ => ⟨rfl, e0, (by decide : 0 + 4 ≤ _), (by decide : 0 + 8 ≤ _)⟩)
  dsimp only [Pt.U, Pt.locs, Pt.cells, Pt.slots] at X2 l2 y2 z2 st2 hQ2 Si2 Gr2 Rc2
  subst l2 y2 z2
  obtain ⟨t_2, k_2, rfl, Nq2, Kq2, fq2_0, fq2_1, fq2_2, fq2_3⟩ := hQ2
  refine OwnGoes.tr (T' := T2) (g' := (mkF m 9 #[.val (.ref a1), .val (.ref b1)] [])) st2 ?_
  have N2 := Fr.app N0 Nq2
  have gz2 : h0.size ≤ T2.heap.size := Rc2.2.1
  obtain ⟨X2, hS2, hZ2, ho2⟩ := rebS hS0 hk0 X2 Si2 gz2 hZ hown
  have F2_1 := f0.keep Kq2
  have F2_2 := f4.keep Kq2 (ninS (Ne.symm (Exa.neArv f0 f4 (hw _ (List.mem_of_getElem? (i := 5) rfl)))) nin0)
  have F2_3 := Rc2.safe f0.lt Sf0_a1
  have Ol2 := X00.keep Kq2 (allS f3 all0)
  have K2 : Keep h0 T2.heap ([a1] : List Addr) := K0.trans Kq2 (allS (Or.inl (List.mem_of_getElem? (i := 0) rfl)) all0)
  have R2 := R0.trans Rc2
  refine own_leaveW (Z := Z) (EL := consts_1) X2 hS2 (Nat.le_refl _) hlk (v := none) (fun _ => rfl) (fun fs hr => X2.returnOut hx Bd.returns (hb hby dd_jdk_42_method_3_9) hr) (by decide) (by decide) ?_ ?_
  · rw [hh]
    exact R2.trans (CHv.at X2 hZ2 hEL R2.1)
  show Q_si2e Z a1 b1 kc h0 n0 _ T2.heap _
  exact ⟨t_2, k_2, rfl, N2, K2, fq2_0, fq2_1, fq2_2, fq2_3⟩
theorem ef_subs0 (m : MethodId) (x1 : Int32) (x2 : Int32) (x3 : Int32) : entryFrame m #[(.int (0 : Int32)), (.int x1), (.int x2), (.int x3)] 4 = mkF m 0 #[.val (.int (0 : Int32)), .val (.int x1), .val (.int x2), .val (.int x3)] [] := by first | (simp [entryFrame, mkF, argsToLocals, Value.category]; done) | rfl
def Q_subs0 (Z : State) (c0 : Int32) (c1 : Int32) (c2 : Int32) (h0 : Heap) (n0 : Nat) (v : Option Value) (h : Heap) (L : List Loc) : Prop := ∃ (x : Addr), ∃ (t : Addr), ∃ (k : ClassId), v = some (.ref x) ∧ Fr n0 L ∧ Keep h0 h ([] : List Addr) ∧ h0.size ≤ x ∧ Exa Z h x "java/lang/String" ∧ Fld Z h x "java/lang/String" "value" "[B" (.ref t) ∧ Fld Z h x "java/lang/String" "coder" "B" (.int (0 : Int32)) ∧ Arv Z h t k .byte (0 : Int32) [] (.int (0 : Int32))
theorem pn_40884587 : plainName "com/example/fieldwright/fieldwright/FieldStructureAllowsPinLaw" = true := by first | (simp [plainName, overriddenIn]; done) | decide +kernel
theorem dd_method_2_0 : decode method_2_code 0 = .ok (.iload_n 0, 1) := by decide +kernel
theorem dd_method_2_1 : decode method_2_code 1 = .ok (.ifCond .ne 14, 3) := by decide +kernel
theorem dd_method_2_4 : decode method_2_code 4 = .ok (.new 7, 3) := by decide +kernel
theorem dd_method_2_7 : decode method_2_code 7 = .ok (.dup, 1) := by decide +kernel
theorem dd_method_2_8 : decode method_2_code 8 = .ok (.iconst 0, 1) := by decide +kernel
theorem dd_method_2_9 : decode method_2_code 9 = .ok (.newarray .char, 2) := by decide +kernel
theorem dd_method_2_11 : decode method_2_code 11 = .ok (.invokespecial 9, 3) := by decide +kernel
theorem pd_68446664 : parseMethodDescriptor "([C)V" = some ⟨[(.array .char)], none⟩ := by decide +kernel
theorem dd_method_2_14 : decode method_2_code 14 = .ok (.areturn, 1) := by decide +kernel
set_option maxRecDepth 65536 in
set_option maxHeartbeats 40000000 in
theorem rm_subs0 (l : Launch) (Z : State) (a0 : Array Value) (hw : ∀ d ∈ tables_1, d.before a0 Z = true) (ws : List Jvm.Cond) (wG1 : Int32) (wO2 : Sta Z Z.heap "java/lang/String" "COMPACT_STRINGS" "Z" (.int wG1)) (wP5 : ¬ (wG1 = (0 : Int32))) (wG3 : Value) (wO4 : Sta Z Z.heap "jdk/internal/util/Preconditions" "SIOOBE_FORMATTER" "Ljava/util/function/BiFunction;" wG3) (wrG3 : wG3.isRef = true) (hstr : ∀ a ∈ Bundle.stringAtoms, a.before a0 Z = true) (hEL : EW Z a0 consts_1) (h0 : Heap) (n0 : Nat) (X00 : Old Z n0 h0) (c0 : Int32) (c1 : Int32) (c2 : Int32) (hc0 : ¬ c0 < 0 ∧ ¬ (255 : Int32) < c0) (hc1 : ¬ c1 < 0 ∧ ¬ (255 : Int32) < c1) (hc2 : ¬ c2 < 0 ∧ ¬ (255 : Int32) < c2) :
    MetFree l (⟨"com/example/fieldwright/fieldwright/FieldStructureAllowsPinLaw", "subs", "(ICCC)Ljava/lang/String;"⟩ : MethodName) (head1 (Jvm.Cond.code (⟨"com/example/fieldwright/fieldwright/FieldStructureAllowsPinLaw", "subs", "(ICCC)Ljava/lang/String;"⟩ : MethodName) method_2_code 4 (some (.object "java/lang/String")) :: ws) ({ frames := 3, cells := 6, slots := 12, locals := 43 } : Room)) (fun a U => a = #[(.int (0 : Int32)), (.int c0), (.int c1), (.int c2)] ∧ Z.Warmed39 U.vm ∧ U.heap = h0 ∧ CHv Z consts_1 U.vm h0) (fun _ _ _ _ _ => True) (fun _ U o U' => ∃ v L, o = .returned v ∧ Q_subs0 Z c0 c1 c2 h0 n0 v U'.heap L ∧ CHr Z consts_1 U.vm U.heap U'.vm U'.heap ∧ ReturnedEndW U o U' L ({ frames := 3, cells := 6, slots := 12, locals := 43 } : Room).cells ({ frames := 3, cells := 6, slots := 12, locals := 43 } : Room).slots) := by
  refine MetFree.of_bodySF (plainFor_of_name pn_40884587) hisR ?_
  intro p e s m args below meth c s₁ Bd hml0 hP hK
  obtain ⟨rfl, hZ, hh, hH⟩ := hP
  have hx := Bd.exec
  have hby := Bd.bytes
  have hlk := Bd.notSynchronized
  have hml : c.maxLocals = 4 := hml0
  have hown : s.vm.findClass "com/example/fieldwright/fieldwright/FieldStructureAllowsPinLaw" = some m.cls := findClass_of_methodNamed Bd.named
  have hnm := (name_of_methodNamed Bd.named Bd.method).1
  have X0 : Stand p l e ({ frames := 3, cells := 6, slots := 12, locals := 43 } : Room) (s.setVm s.vm) m #[(.int (0 : Int32)), (.int c0), (.int c1), (.int c2)] below meth c s₁ [] 0 0 := Stand.of_body Bd
  have e0 : s₁.heap = h0 := by rw [← hh, Bd.state]; rfl
  have N0 := Fr.nil n0
  have Z0 : n0 ≤ h0.size := X00.1 ▸ X00.2.1
  have K0 : Keep h0 h0 ([] : List Addr) := Keep.refl _ _
  have R0 : CHr Z consts_1 s.vm h0 s.vm h0 := CHr.refl hH
  have hS0 : s.Since s.vm h0.size := State.WarmedH.since (State.WarmedH.refl s) _
  have hk0 : h0.size ≤ h0.size := Nat.le_refl _
  show OwnGoes p e below (fun o U' => ∃ v L, o = .returned v ∧ Q_subs0 Z c0 c1 c2 h0 n0 v U'.heap L ∧ CHr Z consts_1 s.vm s.heap U'.vm U'.heap ∧ ReturnedEndW s o U' L ({ frames := 3, cells := 6, slots := 12, locals := 43 } : Room).cells ({ frames := 3, cells := 6, slots := 12, locals := 43 } : Room).slots) s₁ (entryFrame m #[(.int (0 : Int32)), (.int c0), (.int c1), (.int c2)] 4)
  refine OwnGoes.step (T' := s₁) (g' := (mkF m 0 #[.val (.int (0 : Int32)), .val (.int c0), .val (.int c1), .val (.int c2)] [])) (fun tgt kgo => castTop (ef_subs0 m c0 c1 c2) kgo) ?_
  refine OwnGoes.step (T' := s₁) (g' := (mkF m 4 #[.val (.int (0 : Int32)), .val (.int c0), .val (.int c1), .val (.int c2)] [])) (fun tgt kgo => ?_) ?_
  · show Steps p.tables e below (s₁.setTop (mkF m 0 #[.val (.int (0 : Int32)), .val (.int c0), .val (.int c1), .val (.int c2)] [])) tgt
    refine XS.iloadN X0.here hx rfl (hb hby dd_method_2_0) rfl ?_
    show Steps p.tables e below (s₁.setTop (mkF m 1 #[.val (.int (0 : Int32)), .val (.int c0), .val (.int c1), .val (.int c2)] [(.int (0 : Int32))])) tgt
    refine XS.ifNo X0.here hx rfl (hb hby dd_method_2_1) rfl ((if0 _ _).trans (teq (by decide : (0 : Int32) = (0 : Int32))).2) ?_
    exact kgo
  obtain ⟨T1, h1, X1, e1, E1, A1, D1, U1, st1⟩ := newO X0 hx hZ hown (hw _ (List.mem_of_getElem? (i := 4) rfl)) (hw _ (List.mem_of_getElem? (i := 5) rfl)) (hw _ (List.mem_of_getElem? (i := 6) rfl)) e0 (g := (mkF m 4 #[.val (.int (0 : Int32)), .val (.int c0), .val (.int c1), .val (.int c2)] [])) rfl (hb hby dd_method_2_4) (by decide) (by decide)
  obtain ⟨b1, g1⟩ : ∃ z, z = h0.size := ⟨_, rfl⟩
  rw [← g1] at A1 D1 U1 st1
  refine OwnGoes.step (T' := T1) (g' := (mkF m 7 #[.val (.int (0 : Int32)), .val (.int c0), .val (.int c1), .val (.int c2)] [(.ref b1)])) st1 ?_
  have g_b1 : n0 ≤ b1 := Nat.le_trans (Nat.le_trans Z0 K0.1) (Nat.le_of_eq g1.symm)
  have s_b1 : h0.size ≤ b1 := Nat.le_trans K0.1 (Nat.le_of_eq g1.symm)
  have Sf1 : Safe Z consts_1 s.vm h1 b1 := Safe.ext E1 R0.1 (Safe.new (Nat.le_of_eq g1.symm))
  have Ol1 := X00.ext E1
  have K1 : Keep h0 h1 ([] : List Addr) := K0.ext E1
  have R1 := R0.trans (CHr.ext E1 R0.1)
  have hk1 := Nat.le_trans hk0 E1.1
  have F1_1 : Fld Z h1 b1 "java/lang/String" "coder" "B" (.int (0 : Int32)) := D1 (Or.inr (hw _ (List.mem_of_getElem? (i := 31) rfl))) (ty := .byte) (by decide)
  have F1_2 : Fld Z h1 b1 "java/lang/String" "value" "[B" .null := D1 (Or.inr (hw _ (List.mem_of_getElem? (i := 33) rfl))) (ty := (.array .byte)) (by decide)
  refine OwnGoes.step (T' := T1) (g' := (mkF m 9 #[.val (.int (0 : Int32)), .val (.int c0), .val (.int c1), .val (.int c2)] [(.int (0 : Int32)), (.ref b1), (.ref b1)])) (fun tgt kgo => ?_) ?_
  · show Steps p.tables e below (T1.setTop (mkF m 7 #[.val (.int (0 : Int32)), .val (.int c0), .val (.int c1), .val (.int c2)] [(.ref b1)])) tgt
    refine XS.dup X1.here hx rfl (hb hby dd_method_2_7) rfl rfl ?_
    show Steps p.tables e below (T1.setTop (mkF m 8 #[.val (.int (0 : Int32)), .val (.int c0), .val (.int c1), .val (.int c2)] [(.ref b1), (.ref b1)])) tgt
    refine XS.iconst X1.here hx rfl (hb hby dd_method_2_8) ?_
    exact kgo
  obtain ⟨T2, h2, k2, X2, e2, E2, A2, st2⟩ := newP X1 hx hZ (hw _ (List.mem_of_getElem? (i := 7) rfl)) e1 (g := (mkF m 9 #[.val (.int (0 : Int32)), .val (.int c0), .val (.int c1), .val (.int c2)] [(.int (0 : Int32)), (.ref b1), (.ref b1)])) rfl (hb hby dd_method_2_9) rfl (by decide) (cap := 0) (by decide) (by decide) (by decide) (by decide)
  obtain ⟨b2, g2⟩ : ∃ z, z = h1.size := ⟨_, rfl⟩
  rw [← g2] at A2 st2
  refine OwnGoes.step (T' := T2) (g' := (mkF m 11 #[.val (.int (0 : Int32)), .val (.int c0), .val (.int c1), .val (.int c2)] [(.ref b2), (.ref b1), (.ref b1)])) st2 ?_
  have V2 : Arv Z h2 b2 k2 .char (0 : Int32) [] (.int (0 : Int32)) := (Arv.new A2 (by decide)).pad (pad_rep [] (.int (0 : Int32)) 0)
  have ne_b1_b2 : b1 ≠ b2 := Nat.ne_of_lt (Nat.lt_of_lt_of_le A1.lt (Nat.le_of_eq g2.symm))
  have g_b2 : n0 ≤ b2 := Nat.le_trans (Nat.le_trans Z0 K1.1) (Nat.le_of_eq g2.symm)
  have s_b2 : h0.size ≤ b2 := Nat.le_trans K1.1 (Nat.le_of_eq g2.symm)
  have Sf2 : Safe Z consts_1 s.vm h2 b2 := Safe.ext E2 R1.1 (Safe.new (Nat.le_of_eq g2.symm))
  have F2_3 := Safe.ext E2 R1.1 Sf1
  have F2_4 := A1.ext E2
  have F2_5 := F1_1.ext E2
  have F2_6 := F1_2.ext E2
  have Ol2 := Ol1.ext E2
  have K2 : Keep h0 h2 ([] : List Addr) := K1.ext E2
  have R2 := R1.trans (CHr.ext E2 R1.1)
  have hk2 := Nat.le_trans hk1 E2.1
  obtain ⟨_, _, ⟨T3, L3, k3, n3⟩, -, X3, Si3, Gr3, ⟨Lc3, hQ3, l3, y3, z3, Rc3⟩, st3⟩ := X2.specialBackS hx (y := (⟨"java/lang/String", "<init>", "([C)V"⟩ : MethodName)) rfl hown (mvT hZ (hw _ (List.mem_of_getElem? (i := 8) rfl))) (mvT hZ (hw _ (List.mem_of_getElem? (i := 9) rfl))) (mvT hZ (hw _ (List.mem_of_getElem? (i := 10) rfl))) (by decide) (backOfSH (W := 1) (rm_si2e l Z a0 hw [] wG1 wO2 wP5 wG3 wO4 wrG3 hstr hEL h2 n0 Ol2 b1 b2 k2 F2_4 F2_6 F2_5 g_b1 V2) hZ (hw _ (List.mem_of_getElem? (i := 10) rfl)) (hw _ (List.mem_of_getElem? (i := 6) rfl)) (by decide) (by decide) hEL R2.1) (g := (mkF m 11 #[.val (.int (0 : Int32)), .val (.int c0), .val (.int c1), .val (.int c2)] [(.ref b2), (.ref b1), (.ref b1)])) rfl (by rw [hml]; rfl) (Steps.refl _) (a := b1) (argsL := [(.ref b2)]) (rest := [(.ref b1)]) (lenOf pd_68446664 rfl) rfl (by show 2 * 0 + _ ≤ _; exact Nat.le_of_eq rfl) (hb hby dd_method_2_11) (fun _ _ => ⟨rfl, e2, (by decide : 2 + 4 ≤ _), (by decide : 4 + 8 ≤ _)⟩)
  dsimp only [Pt.U, Pt.locs, Pt.cells, Pt.slots] at X3 l3 y3 z3 st3 hQ3 Si3 Gr3 Rc3
  subst l3 y3 z3
  obtain ⟨t_3, k_3, rfl, Nq3, Kq3, fq3_0, fq3_1, fq3_2, fq3_3⟩ := hQ3
  refine OwnGoes.tr (T' := T3) (g' := (mkF m 14 #[.val (.int (0 : Int32)), .val (.int c0), .val (.int c1), .val (.int c2)] [(.ref b1)])) st3 ?_
  have N3 := Fr.app N0 Nq3
  have gz3 : h2.size ≤ T3.heap.size := Rc3.2.1
  obtain ⟨X3, hS3, hZ3, ho3⟩ := rebS hS0 hk2 X3 Si3 gz3 hZ hown
  have F3_7 := Rc3.safe F2_4.lt F2_3
  have F3_8 := F2_4.keep Kq3
  have F3_9 := Rc3.safe V2.lt Sf2
  have F3_10 := V2.keep Kq3 (ninS (Ne.symm ne_b1_b2) nin0)
  have Ol3 := Ol2.keep Kq3 (allS g_b1 all0)
  have K3 : Keep h0 T3.heap ([] : List Addr) := K2.trans Kq3 (allS (Or.inr s_b1) all0)
  have R3 := R2.trans Rc3
  have hret : ∀ fs, (∀ (f : JFrame) (acts : List Action), f.method = m → f.locked = none → f.entered = [] → (doReturn e (T3.setTop f) acts (some (.ref b1))).1 = T3.setFrames fs) → Steps p.tables e below (T3.setTop (mkF m 14 #[.val (.int (0 : Int32)), .val (.int c0), .val (.int c1), .val (.int c2)] [(.ref b1)])) (T3.setFrames fs) := by
    intro fs hr
    jvm_step X3.here [X3.here.top, hx, (hb hby dd_method_2_14), X3.method', Bd.returns, Value.isRef, FieldType.isReference]
    first | (intro acts; rw [hr _ acts rfl rfl rfl]) | rw [hr _ _ rfl rfl rfl]
    exact Steps.refl _
  refine own_leaveW (Z := Z) (EL := consts_1) X3 hS3 (Nat.le_refl _) hlk (v := some (.ref b1)) (fun h => by rw [Bd.returns] at h; cases h) hret (by decide) (by decide) ?_ ?_
  · rw [hh]
    exact R3.trans (CHv.at X3 hZ3 hEL R3.1)
  show Q_subs0 Z c0 c1 c2 h0 n0 _ T3.heap _
  exact ⟨b1, t_3, k_3, rfl, N3, K3, s_b1, fq3_0, fq3_1, fq3_2, fq3_3⟩
theorem ef_subs1 (m : MethodId) (x1 : Int32) (x2 : Int32) (x3 : Int32) : entryFrame m #[(.int (1 : Int32)), (.int x1), (.int x2), (.int x3)] 4 = mkF m 0 #[.val (.int (1 : Int32)), .val (.int x1), .val (.int x2), .val (.int x3)] [] := by first | (simp [entryFrame, mkF, argsToLocals, Value.category]; done) | rfl
def Q_subs1 (Z : State) (c0 : Int32) (c1 : Int32) (c2 : Int32) (h0 : Heap) (n0 : Nat) (v : Option Value) (h : Heap) (L : List Loc) : Prop := ∃ (x : Addr), ∃ (t : Addr), ∃ (k : ClassId), v = some (.ref x) ∧ Fr n0 L ∧ Keep h0 h ([] : List Addr) ∧ h0.size ≤ x ∧ Exa Z h x "java/lang/String" ∧ Fld Z h x "java/lang/String" "value" "[B" (.ref t) ∧ Fld Z h x "java/lang/String" "coder" "B" (.int (0 : Int32)) ∧ Arv Z h t k .byte (1 : Int32) ((([c0] : List Int32).map (fun c => c.toInt8.toInt32)).map Value.int) (.int (0 : Int32))
theorem dd_method_2_15 : decode method_2_code 15 = .ok (.iload_n 0, 1) := by decide +kernel
theorem dd_method_2_16 : decode method_2_code 16 = .ok (.iconst 1, 1) := by decide +kernel
theorem dd_method_2_17 : decode method_2_code 17 = .ok (.if_icmp .ne 18, 3) := by decide +kernel
theorem dd_method_2_20 : decode method_2_code 20 = .ok (.new 7, 3) := by decide +kernel
theorem dd_method_2_23 : decode method_2_code 23 = .ok (.dup, 1) := by decide +kernel
theorem dd_method_2_24 : decode method_2_code 24 = .ok (.iconst 1, 1) := by decide +kernel
theorem dd_method_2_25 : decode method_2_code 25 = .ok (.newarray .char, 2) := by decide +kernel
theorem dd_method_2_27 : decode method_2_code 27 = .ok (.dup, 1) := by decide +kernel
theorem dd_method_2_28 : decode method_2_code 28 = .ok (.iconst 0, 1) := by decide +kernel
theorem dd_method_2_29 : decode method_2_code 29 = .ok (.iload_n 1, 1) := by decide +kernel
theorem dd_method_2_30 : decode method_2_code 30 = .ok (.castore, 1) := by decide +kernel
theorem dd_method_2_31 : decode method_2_code 31 = .ok (.invokespecial 9, 3) := by decide +kernel
theorem own_hws : ∀ d ∈ StrChars.Road.words, d ∈ tables_1 := by decide +kernel
theorem dd_method_2_34 : decode method_2_code 34 = .ok (.areturn, 1) := by decide +kernel
set_option maxRecDepth 65536 in
set_option maxHeartbeats 40000000 in
theorem rm_subs1 (l : Launch) (Z : State) (a0 : Array Value) (hw : ∀ d ∈ tables_1, d.before a0 Z = true) (ws : List Jvm.Cond) (wG1 : Int32) (wO2 : Sta Z Z.heap "java/lang/String" "COMPACT_STRINGS" "Z" (.int wG1)) (wP5 : ¬ (wG1 = (0 : Int32))) (wG3 : Value) (wO4 : Sta Z Z.heap "jdk/internal/util/Preconditions" "SIOOBE_FORMATTER" "Ljava/util/function/BiFunction;" wG3) (wrG3 : wG3.isRef = true) (hstr : ∀ a ∈ Bundle.stringAtoms, a.before a0 Z = true) (hEL : EW Z a0 consts_1) (h0 : Heap) (n0 : Nat) (X00 : Old Z n0 h0) (c0 : Int32) (c1 : Int32) (c2 : Int32) (hc0 : ¬ c0 < 0 ∧ ¬ (255 : Int32) < c0) (hc1 : ¬ c1 < 0 ∧ ¬ (255 : Int32) < c1) (hc2 : ¬ c2 < 0 ∧ ¬ (255 : Int32) < c2) :
    MetFree l (⟨"com/example/fieldwright/fieldwright/FieldStructureAllowsPinLaw", "subs", "(ICCC)Ljava/lang/String;"⟩ : MethodName) (head1 (Jvm.Cond.code (⟨"com/example/fieldwright/fieldwright/FieldStructureAllowsPinLaw", "subs", "(ICCC)Ljava/lang/String;"⟩ : MethodName) method_2_code 4 (some (.object "java/lang/String")) :: ws) ({ frames := 4, cells := 3, slots := 6, locals := 66 } : Room)) (fun a U => a = #[(.int (1 : Int32)), (.int c0), (.int c1), (.int c2)] ∧ Z.Warmed39 U.vm ∧ U.heap = h0) (fun _ _ _ _ _ => True) (fun _ U o U' => ∃ v L, o = .returned v ∧ Q_subs1 Z c0 c1 c2 h0 n0 v U'.heap L ∧ FrameEnd U o U' L ({ frames := 4, cells := 3, slots := 6, locals := 66 } : Room).cells ({ frames := 4, cells := 3, slots := 6, locals := 66 } : Room).slots) := by
  refine MetFree.of_bodySF (plainFor_of_name pn_40884587) hisR ?_
  intro p e s m args below meth c s₁ Bd hml0 hP hK
  obtain ⟨rfl, hZ, hh⟩ := hP
  have hx := Bd.exec
  have hby := Bd.bytes
  have hlk := Bd.notSynchronized
  have hml : c.maxLocals = 4 := hml0
  have hown : s.vm.findClass "com/example/fieldwright/fieldwright/FieldStructureAllowsPinLaw" = some m.cls := findClass_of_methodNamed Bd.named
  have hnm := (name_of_methodNamed Bd.named Bd.method).1
  have X0 : Stand p l e ({ frames := 4, cells := 3, slots := 6, locals := 66 } : Room) s m #[(.int (1 : Int32)), (.int c0), (.int c1), (.int c2)] below meth c s₁ [] 0 0 := Stand.of_body Bd
  have e0 : s₁.heap = h0 := by rw [← hh, Bd.state]; rfl
  have N0 := Fr.nil n0
  have Z0 : n0 ≤ h0.size := X00.1 ▸ X00.2.1
  have K0 : Keep h0 h0 ([] : List Addr) := Keep.refl _ _
  show OwnGoes p e below (fun o U' => ∃ v L, o = .returned v ∧ Q_subs1 Z c0 c1 c2 h0 n0 v U'.heap L ∧ FrameEnd s o U' L ({ frames := 4, cells := 3, slots := 6, locals := 66 } : Room).cells ({ frames := 4, cells := 3, slots := 6, locals := 66 } : Room).slots) s₁ (entryFrame m #[(.int (1 : Int32)), (.int c0), (.int c1), (.int c2)] 4)
  refine OwnGoes.step (T' := s₁) (g' := (mkF m 0 #[.val (.int (1 : Int32)), .val (.int c0), .val (.int c1), .val (.int c2)] [])) (fun tgt kgo => castTop (ef_subs1 m c0 c1 c2) kgo) ?_
  refine OwnGoes.step (T' := s₁) (g' := (mkF m 20 #[.val (.int (1 : Int32)), .val (.int c0), .val (.int c1), .val (.int c2)] [])) (fun tgt kgo => ?_) ?_
  · show Steps p.tables e below (s₁.setTop (mkF m 0 #[.val (.int (1 : Int32)), .val (.int c0), .val (.int c1), .val (.int c2)] [])) tgt
    refine XS.iloadN X0.here hx rfl (hb hby dd_method_2_0) rfl ?_
    show Steps p.tables e below (s₁.setTop (mkF m 1 #[.val (.int (1 : Int32)), .val (.int c0), .val (.int c1), .val (.int c2)] [(.int (1 : Int32))])) tgt
    refine XS.ifYes X0.here hx rfl (pc0 := 1) (pc' := 15) rfl (hb hby dd_method_2_1) rfl ((if0 _ _).trans (feq (by decide : ¬ ((1 : Int32) = (0 : Int32)))).2) (by decide) (by decide) ?_
    show Steps p.tables e below (s₁.setTop (mkF m 15 #[.val (.int (1 : Int32)), .val (.int c0), .val (.int c1), .val (.int c2)] [])) tgt
    refine XS.iloadN X0.here hx rfl (hb hby dd_method_2_15) rfl ?_
    show Steps p.tables e below (s₁.setTop (mkF m 16 #[.val (.int (1 : Int32)), .val (.int c0), .val (.int c1), .val (.int c2)] [(.int (1 : Int32))])) tgt
    refine XS.iconst X0.here hx rfl (hb hby dd_method_2_16) ?_
    show Steps p.tables e below (s₁.setTop (mkF m 17 #[.val (.int (1 : Int32)), .val (.int c0), .val (.int c1), .val (.int c2)] [(.int (1 : Int32)), (.int (1 : Int32))])) tgt
    refine XS.icmpNo X0.here hx rfl (hb hby dd_method_2_17) rfl (teq (by decide : (1 : Int32) = (1 : Int32))).2 ?_
    exact kgo
  obtain ⟨T1, h1, X1, e1, E1, A1, D1, U1, st1⟩ := newO X0 hx hZ hown (hw _ (List.mem_of_getElem? (i := 4) rfl)) (hw _ (List.mem_of_getElem? (i := 5) rfl)) (hw _ (List.mem_of_getElem? (i := 6) rfl)) e0 (g := (mkF m 20 #[.val (.int (1 : Int32)), .val (.int c0), .val (.int c1), .val (.int c2)] [])) rfl (hb hby dd_method_2_20) (by decide) (by decide)
  obtain ⟨b1, g1⟩ : ∃ z, z = h0.size := ⟨_, rfl⟩
  rw [← g1] at A1 D1 U1 st1
  refine OwnGoes.step (T' := T1) (g' := (mkF m 23 #[.val (.int (1 : Int32)), .val (.int c0), .val (.int c1), .val (.int c2)] [(.ref b1)])) st1 ?_
  have g_b1 : n0 ≤ b1 := Nat.le_trans (Nat.le_trans Z0 K0.1) (Nat.le_of_eq g1.symm)
  have s_b1 : h0.size ≤ b1 := Nat.le_trans K0.1 (Nat.le_of_eq g1.symm)
  have Ol1 := X00.ext E1
  have K1 : Keep h0 h1 ([] : List Addr) := K0.ext E1
  have F1_1 : Fld Z h1 b1 "java/lang/String" "coder" "B" (.int (0 : Int32)) := D1 (Or.inr (hw _ (List.mem_of_getElem? (i := 31) rfl))) (ty := .byte) (by decide)
  have F1_2 : Fld Z h1 b1 "java/lang/String" "value" "[B" .null := D1 (Or.inr (hw _ (List.mem_of_getElem? (i := 33) rfl))) (ty := (.array .byte)) (by decide)
  refine OwnGoes.step (T' := T1) (g' := (mkF m 25 #[.val (.int (1 : Int32)), .val (.int c0), .val (.int c1), .val (.int c2)] [(.int (1 : Int32)), (.ref b1), (.ref b1)])) (fun tgt kgo => ?_) ?_
  · show Steps p.tables e below (T1.setTop (mkF m 23 #[.val (.int (1 : Int32)), .val (.int c0), .val (.int c1), .val (.int c2)] [(.ref b1)])) tgt
    refine XS.dup X1.here hx rfl (hb hby dd_method_2_23) rfl rfl ?_
    show Steps p.tables e below (T1.setTop (mkF m 24 #[.val (.int (1 : Int32)), .val (.int c0), .val (.int c1), .val (.int c2)] [(.ref b1), (.ref b1)])) tgt
    refine XS.iconst X1.here hx rfl (hb hby dd_method_2_24) ?_
    exact kgo
  obtain ⟨T2, h2, k2, X2, e2, E2, A2, st2⟩ := newP X1 hx hZ (hw _ (List.mem_of_getElem? (i := 7) rfl)) e1 (g := (mkF m 25 #[.val (.int (1 : Int32)), .val (.int c0), .val (.int c1), .val (.int c2)] [(.int (1 : Int32)), (.ref b1), (.ref b1)])) rfl (hb hby dd_method_2_25) rfl (by decide) (cap := 1) (by decide) (by decide) (by decide) (by decide)
  obtain ⟨b2, g2⟩ : ∃ z, z = h1.size := ⟨_, rfl⟩
  rw [← g2] at A2 st2
  refine OwnGoes.step (T' := T2) (g' := (mkF m 27 #[.val (.int (1 : Int32)), .val (.int c0), .val (.int c1), .val (.int c2)] [(.ref b2), (.ref b1), (.ref b1)])) st2 ?_
  have V2 : Arv Z h2 b2 k2 .char (1 : Int32) [(.int (0 : Int32))] (.int (0 : Int32)) := (Arv.new A2 (by decide)).pad (pad_rep [] (.int (0 : Int32)) 1)
  have ne_b1_b2 : b1 ≠ b2 := Nat.ne_of_lt (Nat.lt_of_lt_of_le A1.lt (Nat.le_of_eq g2.symm))
  have g_b2 : n0 ≤ b2 := Nat.le_trans (Nat.le_trans Z0 K1.1) (Nat.le_of_eq g2.symm)
  have s_b2 : h0.size ≤ b2 := Nat.le_trans K1.1 (Nat.le_of_eq g2.symm)
  have F2_3 := A1.ext E2
  have F2_4 := F1_1.ext E2
  have F2_5 := F1_2.ext E2
  have Ol2 := Ol1.ext E2
  have K2 : Keep h0 h2 ([] : List Addr) := K1.ext E2
  refine OwnGoes.step (T' := T2) (g' := (mkF m 30 #[.val (.int (1 : Int32)), .val (.int c0), .val (.int c1), .val (.int c2)] [(.int c0), (.int (0 : Int32)), (.ref b2), (.ref b2), (.ref b1), (.ref b1)])) (fun tgt kgo => ?_) ?_
  · show Steps p.tables e below (T2.setTop (mkF m 27 #[.val (.int (1 : Int32)), .val (.int c0), .val (.int c1), .val (.int c2)] [(.ref b2), (.ref b1), (.ref b1)])) tgt
    refine XS.dup X2.here hx rfl (hb hby dd_method_2_27) rfl rfl ?_
    show Steps p.tables e below (T2.setTop (mkF m 28 #[.val (.int (1 : Int32)), .val (.int c0), .val (.int c1), .val (.int c2)] [(.ref b2), (.ref b2), (.ref b1), (.ref b1)])) tgt
    refine XS.iconst X2.here hx rfl (hb hby dd_method_2_28) ?_
    show Steps p.tables e below (T2.setTop (mkF m 29 #[.val (.int (1 : Int32)), .val (.int c0), .val (.int c1), .val (.int c2)] [(.int (0 : Int32)), (.ref b2), (.ref b2), (.ref b1), (.ref b1)])) tgt
    refine XS.iloadN X2.here hx rfl (hb hby dd_method_2_29) rfl ?_
    exact kgo
  obtain ⟨cl3, Ar3, q3, S3, M3, H3, G3⟩ := id V2
  obtain ⟨T3, h3, X3, e3, W3, st3⟩ := stC X2 hx hZ e2 Ar3 (j := (0 : Int32)) (inb_of S3 ⟨by decide, by decide⟩) (g := (mkF m 30 #[.val (.int (1 : Int32)), .val (.int c0), .val (.int c1), .val (.int c2)] [(.int c0), (.int (0 : Int32)), (.ref b2), (.ref b2), (.ref b1), (.ref b1)])) rfl rfl (hb hby dd_method_2_30)
  refine OwnGoes.step (T' := T3) (g' := (mkF m 31 #[.val (.int (1 : Int32)), .val (.int c0), .val (.int c1), .val (.int c2)] [(.ref b2), (.ref b1), (.ref b1)])) st3 ?_
  have V3 : Arv Z h3 b2 k2 .char (1 : Int32) [(.int (nar .char c0))] (.int (0 : Int32)) := Arv.set Ar3 q3 S3 M3 H3 G3 (fits_nar_char _) W3 0 rfl (Nat.le_of_ble_eq_true rfl)
  rw [(own_nar_lat hc0)] at V3
  have V3' : Arv Z h3 b2 k2 .char (1 : Int32) [(.int c0)] (.int (0 : Int32)) := V3
  have F3_6 := F2_3.wr W3
  have F3_7 := F2_4.other W3 (Or.inl ne_b1_b2)
  have F3_8 := F2_5.other W3 (Or.inl ne_b1_b2)
  have Ol3 := Ol2.wr W3 g_b2
  have K3 : Keep h0 h3 ([] : List Addr) := K2.wr W3 (Or.inr s_b2)
  have N3 := Fr.snoc X3 N0 g_b2
  have hp5 : ∀ c ∈ ([c0] : List Int32), ¬ c < 0 ∧ ¬ (255 : Int32) < c := (own_memS hc0 own_mem0)
  have V5c : Arv Z h3 b2 k2 .char (1 : Int32) (([c0] : List Int32).map Value.int) (.int (0 : Int32)) := V3'
  obtain ⟨_, _, ⟨T4, L4, k4, n4⟩, -, X4, ⟨Lc4, hQ4, l4, y4, z4⟩, st4⟩ := X3.specialBack hx (y := (⟨"java/lang/String", "<init>", "([C)V"⟩ : MethodName)) rfl hown (mvT hZ (hw _ (List.mem_of_getElem? (i := 8) rfl))) (mvT hZ (hw _ (List.mem_of_getElem? (i := 9) rfl))) (mvT hZ (hw _ (List.mem_of_getElem? (i := 10) rfl))) (by decide) (StrChars.Road.backV (W := 1) hZ (fun d hd => hw d (own_hws d hd)) (kI := 4) (hw _ (List.mem_of_getElem? (i := 5) rfl)) (cs := ([c0] : List Int32)) (bs := ([c0] : List Int32).map (fun c => c.toInt8.toInt32)) (n := 1) g_b1 (Nat.le_trans Z0 K3.1) F3_6 F3_8 F3_7 V5c (wO2.ext Ol3.2) wP5 rfl rfl (by decide) (by decide) hp5 rfl (by decide) (by decide)) (g := (mkF m 31 #[.val (.int (1 : Int32)), .val (.int c0), .val (.int c1), .val (.int c2)] [(.ref b2), (.ref b1), (.ref b1)])) rfl (by rw [hml]; rfl) (Steps.refl _) (a := b1) (argsL := [(.ref b2)]) (rest := [(.ref b1)]) (lenOf pd_68446664 rfl) rfl (by show 2 * 0 + _ ≤ _; exact Nat.le_of_eq rfl) (hb hby dd_method_2_31) (fun _ _ => ⟨rfl, e3, (by decide : 2 + 1 ≤ _), (by decide : 5 + 1 ≤ _)⟩)
  dsimp only [Pt.U, Pt.locs, Pt.cells, Pt.slots] at X4 l4 y4 z4 st4 hQ4
  subst l4 y4 z4
  obtain ⟨rfl, Nq4, Kq4, fe4, fc4, t4, kb4, ut4, vt4, wt4, fv4, fa4⟩ := hQ4
  refine OwnGoes.tr (T' := T4) (g' := (mkF m 34 #[.val (.int (1 : Int32)), .val (.int c0), .val (.int c1), .val (.int c2)] [(.ref b1)])) st4 ?_
  have N4 := Fr.app N3 Nq4
  have ne_b1_t4 : b1 ≠ t4 := Nat.ne_of_lt (Nat.lt_of_lt_of_le F3_6.lt vt4)
  have ne_b2_t4 : b2 ≠ t4 := Nat.ne_of_lt (Nat.lt_of_lt_of_le V3'.lt vt4)
  have g_t4 : n0 ≤ t4 := Nat.le_trans (Nat.le_trans Z0 K3.1) vt4
  have s_t4 : h0.size ≤ t4 := Nat.le_trans K3.1 vt4
  have F4_9 := F3_6.keep Kq4
  have F4_10 := V3'.keep Kq4 (ninS (Ne.symm ne_b1_b2) nin0)
  have Ol4 := Ol3.keep Kq4 (allS g_b1 all0)
  have K4 : Keep h0 T4.heap ([] : List Addr) := K3.trans Kq4 (allS (Or.inr s_b1) all0)
  have hret : ∀ fs, (∀ (f : JFrame) (acts : List Action), f.method = m → f.locked = none → f.entered = [] → (doReturn e (T4.setTop f) acts (some (.ref b1))).1 = T4.setFrames fs) → Steps p.tables e below (T4.setTop (mkF m 34 #[.val (.int (1 : Int32)), .val (.int c0), .val (.int c1), .val (.int c2)] [(.ref b1)])) (T4.setFrames fs) := by
    intro fs hr
    jvm_step X4.here [X4.here.top, hx, (hb hby dd_method_2_34), X4.method', Bd.returns, Value.isRef, FieldType.isReference]
    first | (intro acts; rw [hr _ acts rfl rfl rfl]) | rw [hr _ _ rfl rfl rfl]
    exact Steps.refl _
  refine own_leave X4 hlk (v := some (.ref b1)) (fun h => by rw [Bd.returns] at h; cases h) hret (by decide) (by decide) ?_
  show Q_subs1 Z c0 c1 c2 h0 n0 _ T4.heap _
  exact ⟨b1, t4, kb4, rfl, N4, K4, s_b1, fe4, fv4, fc4, fa4⟩
theorem ef_subs2 (m : MethodId) (x1 : Int32) (x2 : Int32) (x3 : Int32) : entryFrame m #[(.int (2 : Int32)), (.int x1), (.int x2), (.int x3)] 4 = mkF m 0 #[.val (.int (2 : Int32)), .val (.int x1), .val (.int x2), .val (.int x3)] [] := by first | (simp [entryFrame, mkF, argsToLocals, Value.category]; done) | rfl
def Q_subs2 (Z : State) (c0 : Int32) (c1 : Int32) (c2 : Int32) (h0 : Heap) (n0 : Nat) (v : Option Value) (h : Heap) (L : List Loc) : Prop := ∃ (x : Addr), ∃ (t : Addr), ∃ (k : ClassId), v = some (.ref x) ∧ Fr n0 L ∧ Keep h0 h ([] : List Addr) ∧ h0.size ≤ x ∧ Exa Z h x "java/lang/String" ∧ Fld Z h x "java/lang/String" "value" "[B" (.ref t) ∧ Fld Z h x "java/lang/String" "coder" "B" (.int (0 : Int32)) ∧ Arv Z h t k .byte (2 : Int32) ((([c0, c1] : List Int32).map (fun c => c.toInt8.toInt32)).map Value.int) (.int (0 : Int32))
theorem dd_method_2_35 : decode method_2_code 35 = .ok (.iload_n 0, 1) := by decide +kernel
theorem dd_method_2_36 : decode method_2_code 36 = .ok (.iconst 2, 1) := by decide +kernel
theorem dd_method_2_37 : decode method_2_code 37 = .ok (.if_icmp .ne 22, 3) := by decide +kernel
theorem dd_method_2_40 : decode method_2_code 40 = .ok (.new 7, 3) := by decide +kernel
theorem dd_method_2_43 : decode method_2_code 43 = .ok (.dup, 1) := by decide +kernel
theorem dd_method_2_44 : decode method_2_code 44 = .ok (.iconst 2, 1) := by decide +kernel
theorem dd_method_2_45 : decode method_2_code 45 = .ok (.newarray .char, 2) := by decide +kernel
theorem dd_method_2_47 : decode method_2_code 47 = .ok (.dup, 1) := by decide +kernel
theorem dd_method_2_48 : decode method_2_code 48 = .ok (.iconst 0, 1) := by decide +kernel
theorem dd_method_2_49 : decode method_2_code 49 = .ok (.iload_n 1, 1) := by decide +kernel
theorem dd_method_2_50 : decode method_2_code 50 = .ok (.castore, 1) := by decide +kernel
theorem dd_method_2_51 : decode method_2_code 51 = .ok (.dup, 1) := by decide +kernel
theorem dd_method_2_52 : decode method_2_code 52 = .ok (.iconst 1, 1) := by decide +kernel
theorem dd_method_2_53 : decode method_2_code 53 = .ok (.iload_n 2, 1) := by decide +kernel
theorem dd_method_2_54 : decode method_2_code 54 = .ok (.castore, 1) := by decide +kernel
theorem dd_method_2_55 : decode method_2_code 55 = .ok (.invokespecial 9, 3) := by decide +kernel
theorem dd_method_2_58 : decode method_2_code 58 = .ok (.areturn, 1) := by decide +kernel
set_option maxRecDepth 65536 in
set_option maxHeartbeats 40000000 in
theorem rm_subs2 (l : Launch) (Z : State) (a0 : Array Value) (hw : ∀ d ∈ tables_1, d.before a0 Z = true) (ws : List Jvm.Cond) (wG1 : Int32) (wO2 : Sta Z Z.heap "java/lang/String" "COMPACT_STRINGS" "Z" (.int wG1)) (wP5 : ¬ (wG1 = (0 : Int32))) (wG3 : Value) (wO4 : Sta Z Z.heap "jdk/internal/util/Preconditions" "SIOOBE_FORMATTER" "Ljava/util/function/BiFunction;" wG3) (wrG3 : wG3.isRef = true) (hstr : ∀ a ∈ Bundle.stringAtoms, a.before a0 Z = true) (hEL : EW Z a0 consts_1) (h0 : Heap) (n0 : Nat) (X00 : Old Z n0 h0) (c0 : Int32) (c1 : Int32) (c2 : Int32) (hc0 : ¬ c0 < 0 ∧ ¬ (255 : Int32) < c0) (hc1 : ¬ c1 < 0 ∧ ¬ (255 : Int32) < c1) (hc2 : ¬ c2 < 0 ∧ ¬ (255 : Int32) < c2) :
    MetFree l (⟨"com/example/fieldwright/fieldwright/FieldStructureAllowsPinLaw", "subs", "(ICCC)Ljava/lang/String;"⟩ : MethodName) (head1 (Jvm.Cond.code (⟨"com/example/fieldwright/fieldwright/FieldStructureAllowsPinLaw", "subs", "(ICCC)Ljava/lang/String;"⟩ : MethodName) method_2_code 4 (some (.object "java/lang/String")) :: ws) ({ frames := 4, cells := 3, slots := 8, locals := 66 } : Room)) (fun a U => a = #[(.int (2 : Int32)), (.int c0), (.int c1), (.int c2)] ∧ Z.Warmed39 U.vm ∧ U.heap = h0) (fun _ _ _ _ _ => True) (fun _ U o U' => ∃ v L, o = .returned v ∧ Q_subs2 Z c0 c1 c2 h0 n0 v U'.heap L ∧ FrameEnd U o U' L ({ frames := 4, cells := 3, slots := 8, locals := 66 } : Room).cells ({ frames := 4, cells := 3, slots := 8, locals := 66 } : Room).slots) := by
  refine MetFree.of_bodySF (plainFor_of_name pn_40884587) hisR ?_
  intro p e s m args below meth c s₁ Bd hml0 hP hK
  obtain ⟨rfl, hZ, hh⟩ := hP
  have hx := Bd.exec
  have hby := Bd.bytes
  have hlk := Bd.notSynchronized
  have hml : c.maxLocals = 4 := hml0
  have hown : s.vm.findClass "com/example/fieldwright/fieldwright/FieldStructureAllowsPinLaw" = some m.cls := findClass_of_methodNamed Bd.named
  have hnm := (name_of_methodNamed Bd.named Bd.method).1
  have X0 : Stand p l e ({ frames := 4, cells := 3, slots := 8, locals := 66 } : Room) s m #[(.int (2 : Int32)), (.int c0), (.int c1), (.int c2)] below meth c s₁ [] 0 0 := Stand.of_body Bd
  have e0 : s₁.heap = h0 := by rw [← hh, Bd.state]; rfl
  have N0 := Fr.nil n0
  have Z0 : n0 ≤ h0.size := X00.1 ▸ X00.2.1
  have K0 : Keep h0 h0 ([] : List Addr) := Keep.refl _ _
  show OwnGoes p e below (fun o U' => ∃ v L, o = .returned v ∧ Q_subs2 Z c0 c1 c2 h0 n0 v U'.heap L ∧ FrameEnd s o U' L ({ frames := 4, cells := 3, slots := 8, locals := 66 } : Room).cells ({ frames := 4, cells := 3, slots := 8, locals := 66 } : Room).slots) s₁ (entryFrame m #[(.int (2 : Int32)), (.int c0), (.int c1), (.int c2)] 4)
  refine OwnGoes.step (T' := s₁) (g' := (mkF m 0 #[.val (.int (2 : Int32)), .val (.int c0), .val (.int c1), .val (.int c2)] [])) (fun tgt kgo => castTop (ef_subs2 m c0 c1 c2) kgo) ?_
  refine OwnGoes.step (T' := s₁) (g' := (mkF m 40 #[.val (.int (2 : Int32)), .val (.int c0), .val (.int c1), .val (.int c2)] [])) (fun tgt kgo => ?_) ?_
  · show Steps p.tables e below (s₁.setTop (mkF m 0 #[.val (.int (2 : Int32)), .val (.int c0), .val (.int c1), .val (.int c2)] [])) tgt
    refine XS.iloadN X0.here hx rfl (hb hby dd_method_2_0) rfl ?_
    show Steps p.tables e below (s₁.setTop (mkF m 1 #[.val (.int (2 : Int32)), .val (.int c0), .val (.int c1), .val (.int c2)] [(.int (2 : Int32))])) tgt
    refine XS.ifYes X0.here hx rfl (pc0 := 1) (pc' := 15) rfl (hb hby dd_method_2_1) rfl ((if0 _ _).trans (feq (by decide : ¬ ((2 : Int32) = (0 : Int32)))).2) (by decide) (by decide) ?_
    show Steps p.tables e below (s₁.setTop (mkF m 15 #[.val (.int (2 : Int32)), .val (.int c0), .val (.int c1), .val (.int c2)] [])) tgt
    refine XS.iloadN X0.here hx rfl (hb hby dd_method_2_15) rfl ?_
    show Steps p.tables e below (s₁.setTop (mkF m 16 #[.val (.int (2 : Int32)), .val (.int c0), .val (.int c1), .val (.int c2)] [(.int (2 : Int32))])) tgt
    refine XS.iconst X0.here hx rfl (hb hby dd_method_2_16) ?_
    show Steps p.tables e below (s₁.setTop (mkF m 17 #[.val (.int (2 : Int32)), .val (.int c0), .val (.int c1), .val (.int c2)] [(.int (1 : Int32)), (.int (2 : Int32))])) tgt
    refine XS.icmpYes X0.here hx rfl (pc0 := 17) (pc' := 35) rfl (hb hby dd_method_2_17) rfl (feq (by decide : ¬ ((2 : Int32) = (1 : Int32)))).2 (by decide) (by decide) ?_
    show Steps p.tables e below (s₁.setTop (mkF m 35 #[.val (.int (2 : Int32)), .val (.int c0), .val (.int c1), .val (.int c2)] [])) tgt
    refine XS.iloadN X0.here hx rfl (hb hby dd_method_2_35) rfl ?_
    show Steps p.tables e below (s₁.setTop (mkF m 36 #[.val (.int (2 : Int32)), .val (.int c0), .val (.int c1), .val (.int c2)] [(.int (2 : Int32))])) tgt
    refine XS.iconst X0.here hx rfl (hb hby dd_method_2_36) ?_
    show Steps p.tables e below (s₁.setTop (mkF m 37 #[.val (.int (2 : Int32)), .val (.int c0), .val (.int c1), .val (.int c2)] [(.int (2 : Int32)), (.int (2 : Int32))])) tgt
    refine XS.icmpNo X0.here hx rfl (hb hby dd_method_2_37) rfl (teq (by decide : (2 : Int32) = (2 : Int32))).2 ?_
    exact kgo
  obtain ⟨T1, h1, X1, e1, E1, A1, D1, U1, st1⟩ := newO X0 hx hZ hown (hw _ (List.mem_of_getElem? (i := 4) rfl)) (hw _ (List.mem_of_getElem? (i := 5) rfl)) (hw _ (List.mem_of_getElem? (i := 6) rfl)) e0 (g := (mkF m 40 #[.val (.int (2 : Int32)), .val (.int c0), .val (.int c1), .val (.int c2)] [])) rfl (hb hby dd_method_2_40) (by decide) (by decide)
  obtain ⟨b1, g1⟩ : ∃ z, z = h0.size := ⟨_, rfl⟩
  rw [← g1] at A1 D1 U1 st1
  refine OwnGoes.step (T' := T1) (g' := (mkF m 43 #[.val (.int (2 : Int32)), .val (.int c0), .val (.int c1), .val (.int c2)] [(.ref b1)])) st1 ?_
  have g_b1 : n0 ≤ b1 := Nat.le_trans (Nat.le_trans Z0 K0.1) (Nat.le_of_eq g1.symm)
  have s_b1 : h0.size ≤ b1 := Nat.le_trans K0.1 (Nat.le_of_eq g1.symm)
  have Ol1 := X00.ext E1
  have K1 : Keep h0 h1 ([] : List Addr) := K0.ext E1
  have F1_1 : Fld Z h1 b1 "java/lang/String" "coder" "B" (.int (0 : Int32)) := D1 (Or.inr (hw _ (List.mem_of_getElem? (i := 31) rfl))) (ty := .byte) (by decide)
  have F1_2 : Fld Z h1 b1 "java/lang/String" "value" "[B" .null := D1 (Or.inr (hw _ (List.mem_of_getElem? (i := 33) rfl))) (ty := (.array .byte)) (by decide)
  refine OwnGoes.step (T' := T1) (g' := (mkF m 45 #[.val (.int (2 : Int32)), .val (.int c0), .val (.int c1), .val (.int c2)] [(.int (2 : Int32)), (.ref b1), (.ref b1)])) (fun tgt kgo => ?_) ?_
  · show Steps p.tables e below (T1.setTop (mkF m 43 #[.val (.int (2 : Int32)), .val (.int c0), .val (.int c1), .val (.int c2)] [(.ref b1)])) tgt
    refine XS.dup X1.here hx rfl (hb hby dd_method_2_43) rfl rfl ?_
    show Steps p.tables e below (T1.setTop (mkF m 44 #[.val (.int (2 : Int32)), .val (.int c0), .val (.int c1), .val (.int c2)] [(.ref b1), (.ref b1)])) tgt
    refine XS.iconst X1.here hx rfl (hb hby dd_method_2_44) ?_
    exact kgo
  obtain ⟨T2, h2, k2, X2, e2, E2, A2, st2⟩ := newP X1 hx hZ (hw _ (List.mem_of_getElem? (i := 7) rfl)) e1 (g := (mkF m 45 #[.val (.int (2 : Int32)), .val (.int c0), .val (.int c1), .val (.int c2)] [(.int (2 : Int32)), (.ref b1), (.ref b1)])) rfl (hb hby dd_method_2_45) rfl (by decide) (cap := 2) (by decide) (by decide) (by decide) (by decide)
  obtain ⟨b2, g2⟩ : ∃ z, z = h1.size := ⟨_, rfl⟩
  rw [← g2] at A2 st2
  refine OwnGoes.step (T' := T2) (g' := (mkF m 47 #[.val (.int (2 : Int32)), .val (.int c0), .val (.int c1), .val (.int c2)] [(.ref b2), (.ref b1), (.ref b1)])) st2 ?_
  have V2 : Arv Z h2 b2 k2 .char (2 : Int32) [(.int (0 : Int32)), (.int (0 : Int32))] (.int (0 : Int32)) := (Arv.new A2 (by decide)).pad (pad_rep [] (.int (0 : Int32)) 2)
  have ne_b1_b2 : b1 ≠ b2 := Nat.ne_of_lt (Nat.lt_of_lt_of_le A1.lt (Nat.le_of_eq g2.symm))
  have g_b2 : n0 ≤ b2 := Nat.le_trans (Nat.le_trans Z0 K1.1) (Nat.le_of_eq g2.symm)
  have s_b2 : h0.size ≤ b2 := Nat.le_trans K1.1 (Nat.le_of_eq g2.symm)
  have F2_3 := A1.ext E2
  have F2_4 := F1_1.ext E2
  have F2_5 := F1_2.ext E2
  have Ol2 := Ol1.ext E2
  have K2 : Keep h0 h2 ([] : List Addr) := K1.ext E2
  refine OwnGoes.step (T' := T2) (g' := (mkF m 50 #[.val (.int (2 : Int32)), .val (.int c0), .val (.int c1), .val (.int c2)] [(.int c0), (.int (0 : Int32)), (.ref b2), (.ref b2), (.ref b1), (.ref b1)])) (fun tgt kgo => ?_) ?_
  · show Steps p.tables e below (T2.setTop (mkF m 47 #[.val (.int (2 : Int32)), .val (.int c0), .val (.int c1), .val (.int c2)] [(.ref b2), (.ref b1), (.ref b1)])) tgt
    refine XS.dup X2.here hx rfl (hb hby dd_method_2_47) rfl rfl ?_
    show Steps p.tables e below (T2.setTop (mkF m 48 #[.val (.int (2 : Int32)), .val (.int c0), .val (.int c1), .val (.int c2)] [(.ref b2), (.ref b2), (.ref b1), (.ref b1)])) tgt
    refine XS.iconst X2.here hx rfl (hb hby dd_method_2_48) ?_
    show Steps p.tables e below (T2.setTop (mkF m 49 #[.val (.int (2 : Int32)), .val (.int c0), .val (.int c1), .val (.int c2)] [(.int (0 : Int32)), (.ref b2), (.ref b2), (.ref b1), (.ref b1)])) tgt
    refine XS.iloadN X2.here hx rfl (hb hby dd_method_2_49) rfl ?_
    exact kgo
  obtain ⟨cl3, Ar3, q3, S3, M3, H3, G3⟩ := id V2
  obtain ⟨T3, h3, X3, e3, W3, st3⟩ := stC X2 hx hZ e2 Ar3 (j := (0 : Int32)) (inb_of S3 ⟨by decide, by decide⟩) (g := (mkF m 50 #[.val (.int (2 : Int32)), .val (.int c0), .val (.int c1), .val (.int c2)] [(.int c0), (.int (0 : Int32)), (.ref b2), (.ref b2), (.ref b1), (.ref b1)])) rfl rfl (hb hby dd_method_2_50)
  refine OwnGoes.step (T' := T3) (g' := (mkF m 51 #[.val (.int (2 : Int32)), .val (.int c0), .val (.int c1), .val (.int c2)] [(.ref b2), (.ref b1), (.ref b1)])) st3 ?_
  have V3 : Arv Z h3 b2 k2 .char (2 : Int32) [(.int (nar .char c0)), (.int (0 : Int32))] (.int (0 : Int32)) := Arv.set Ar3 q3 S3 M3 H3 G3 (fits_nar_char _) W3 0 rfl (Nat.le_of_ble_eq_true rfl)
  rw [(own_nar_lat hc0)] at V3
  have V3' : Arv Z h3 b2 k2 .char (2 : Int32) [(.int c0), (.int (0 : Int32))] (.int (0 : Int32)) := V3
  have F3_6 := F2_3.wr W3
  have F3_7 := F2_4.other W3 (Or.inl ne_b1_b2)
  have F3_8 := F2_5.other W3 (Or.inl ne_b1_b2)
  have Ol3 := Ol2.wr W3 g_b2
  have K3 : Keep h0 h3 ([] : List Addr) := K2.wr W3 (Or.inr s_b2)
  have N3 := Fr.snoc X3 N0 g_b2
  refine OwnGoes.step (T' := T3) (g' := (mkF m 54 #[.val (.int (2 : Int32)), .val (.int c0), .val (.int c1), .val (.int c2)] [(.int c1), (.int (1 : Int32)), (.ref b2), (.ref b2), (.ref b1), (.ref b1)])) (fun tgt kgo => ?_) ?_
  · show Steps p.tables e below (T3.setTop (mkF m 51 #[.val (.int (2 : Int32)), .val (.int c0), .val (.int c1), .val (.int c2)] [(.ref b2), (.ref b1), (.ref b1)])) tgt
    refine XS.dup X3.here hx rfl (hb hby dd_method_2_51) rfl rfl ?_
    show Steps p.tables e below (T3.setTop (mkF m 52 #[.val (.int (2 : Int32)), .val (.int c0), .val (.int c1), .val (.int c2)] [(.ref b2), (.ref b2), (.ref b1), (.ref b1)])) tgt
    refine XS.iconst X3.here hx rfl (hb hby dd_method_2_52) ?_
    show Steps p.tables e below (T3.setTop (mkF m 53 #[.val (.int (2 : Int32)), .val (.int c0), .val (.int c1), .val (.int c2)] [(.int (1 : Int32)), (.ref b2), (.ref b2), (.ref b1), (.ref b1)])) tgt
    refine XS.iloadN X3.here hx rfl (hb hby dd_method_2_53) rfl ?_
    exact kgo
  obtain ⟨cl4, Ar4, q4, S4, M4, H4, G4⟩ := id V3'
  obtain ⟨T4, h4, X4, e4, W4, st4⟩ := stC X3 hx hZ e3 Ar4 (j := (1 : Int32)) (inb_of S4 ⟨by decide, by decide⟩) (g := (mkF m 54 #[.val (.int (2 : Int32)), .val (.int c0), .val (.int c1), .val (.int c2)] [(.int c1), (.int (1 : Int32)), (.ref b2), (.ref b2), (.ref b1), (.ref b1)])) rfl rfl (hb hby dd_method_2_54)
  refine OwnGoes.step (T' := T4) (g' := (mkF m 55 #[.val (.int (2 : Int32)), .val (.int c0), .val (.int c1), .val (.int c2)] [(.ref b2), (.ref b1), (.ref b1)])) st4 ?_
  have V4 : Arv Z h4 b2 k2 .char (2 : Int32) [(.int c0), (.int (nar .char c1))] (.int (0 : Int32)) := Arv.set Ar4 q4 S4 M4 H4 G4 (fits_nar_char _) W4 1 rfl (Nat.le_of_ble_eq_true rfl)
  rw [(own_nar_lat hc1)] at V4
  have V4' : Arv Z h4 b2 k2 .char (2 : Int32) [(.int c0), (.int c1)] (.int (0 : Int32)) := V4
  have F4_9 := F3_6.wr W4
  have F4_10 := F3_7.other W4 (Or.inl ne_b1_b2)
  have F4_11 := F3_8.other W4 (Or.inl ne_b1_b2)
  have Ol4 := Ol3.wr W4 g_b2
  have K4 : Keep h0 h4 ([] : List Addr) := K3.wr W4 (Or.inr s_b2)
  have N4 := Fr.snoc X4 N3 g_b2
  have hp6 : ∀ c ∈ ([c0, c1] : List Int32), ¬ c < 0 ∧ ¬ (255 : Int32) < c := (own_memS hc0 (own_memS hc1 own_mem0))
  have V6c : Arv Z h4 b2 k2 .char (2 : Int32) (([c0, c1] : List Int32).map Value.int) (.int (0 : Int32)) := V4'
  obtain ⟨_, _, ⟨T5, L5, k5, n5⟩, -, X5, ⟨Lc5, hQ5, l5, y5, z5⟩, st5⟩ := X4.specialBack hx (y := (⟨"java/lang/String", "<init>", "([C)V"⟩ : MethodName)) rfl hown (mvT hZ (hw _ (List.mem_of_getElem? (i := 8) rfl))) (mvT hZ (hw _ (List.mem_of_getElem? (i := 9) rfl))) (mvT hZ (hw _ (List.mem_of_getElem? (i := 10) rfl))) (by decide) (StrChars.Road.backV (W := 1) hZ (fun d hd => hw d (own_hws d hd)) (kI := 4) (hw _ (List.mem_of_getElem? (i := 5) rfl)) (cs := ([c0, c1] : List Int32)) (bs := ([c0, c1] : List Int32).map (fun c => c.toInt8.toInt32)) (n := 2) g_b1 (Nat.le_trans Z0 K4.1) F4_9 F4_11 F4_10 V6c (wO2.ext Ol4.2) wP5 rfl rfl (by decide) (by decide) hp6 rfl (by decide) (by decide)) (g := (mkF m 55 #[.val (.int (2 : Int32)), .val (.int c0), .val (.int c1), .val (.int c2)] [(.ref b2), (.ref b1), (.ref b1)])) rfl (by rw [hml]; rfl) (Steps.refl _) (a := b1) (argsL := [(.ref b2)]) (rest := [(.ref b1)]) (lenOf pd_68446664 rfl) rfl (by show 2 * 0 + _ ≤ _; exact Nat.le_of_eq rfl) (hb hby dd_method_2_55) (fun _ _ => ⟨rfl, e4, (by decide : 2 + 1 ≤ _), (by decide : 6 + 2 ≤ _)⟩)
  dsimp only [Pt.U, Pt.locs, Pt.cells, Pt.slots] at X5 l5 y5 z5 st5 hQ5
  subst l5 y5 z5
  obtain ⟨rfl, Nq5, Kq5, fe5, fc5, t5, kb5, ut5, vt5, wt5, fv5, fa5⟩ := hQ5
  refine OwnGoes.tr (T' := T5) (g' := (mkF m 58 #[.val (.int (2 : Int32)), .val (.int c0), .val (.int c1), .val (.int c2)] [(.ref b1)])) st5 ?_
  have N5 := Fr.app N4 Nq5
  have ne_b1_t5 : b1 ≠ t5 := Nat.ne_of_lt (Nat.lt_of_lt_of_le F4_9.lt vt5)
  have ne_b2_t5 : b2 ≠ t5 := Nat.ne_of_lt (Nat.lt_of_lt_of_le V4'.lt vt5)
  have g_t5 : n0 ≤ t5 := Nat.le_trans (Nat.le_trans Z0 K4.1) vt5
  have s_t5 : h0.size ≤ t5 := Nat.le_trans K4.1 vt5
  have F5_12 := F4_9.keep Kq5
  have F5_13 := V4'.keep Kq5 (ninS (Ne.symm ne_b1_b2) nin0)
  have Ol5 := Ol4.keep Kq5 (allS g_b1 all0)
  have K5 : Keep h0 T5.heap ([] : List Addr) := K4.trans Kq5 (allS (Or.inr s_b1) all0)
  have hret : ∀ fs, (∀ (f : JFrame) (acts : List Action), f.method = m → f.locked = none → f.entered = [] → (doReturn e (T5.setTop f) acts (some (.ref b1))).1 = T5.setFrames fs) → Steps p.tables e below (T5.setTop (mkF m 58 #[.val (.int (2 : Int32)), .val (.int c0), .val (.int c1), .val (.int c2)] [(.ref b1)])) (T5.setFrames fs) := by
    intro fs hr
    jvm_step X5.here [X5.here.top, hx, (hb hby dd_method_2_58), X5.method', Bd.returns, Value.isRef, FieldType.isReference]
    first | (intro acts; rw [hr _ acts rfl rfl rfl]) | rw [hr _ _ rfl rfl rfl]
    exact Steps.refl _
  refine own_leave X5 hlk (v := some (.ref b1)) (fun h => by rw [Bd.returns] at h; cases h) hret (by decide) (by decide) ?_
  show Q_subs2 Z c0 c1 c2 h0 n0 _ T5.heap _
  exact ⟨b1, t5, kb5, rfl, N5, K5, s_b1, fe5, fv5, fc5, fa5⟩
theorem ef_subs3 (m : MethodId) (x1 : Int32) (x2 : Int32) (x3 : Int32) : entryFrame m #[(.int (3 : Int32)), (.int x1), (.int x2), (.int x3)] 4 = mkF m 0 #[.val (.int (3 : Int32)), .val (.int x1), .val (.int x2), .val (.int x3)] [] := by first | (simp [entryFrame, mkF, argsToLocals, Value.category]; done) | rfl
def Q_subs3 (Z : State) (c0 : Int32) (c1 : Int32) (c2 : Int32) (h0 : Heap) (n0 : Nat) (v : Option Value) (h : Heap) (L : List Loc) : Prop := ∃ (x : Addr), ∃ (t : Addr), ∃ (k : ClassId), v = some (.ref x) ∧ Fr n0 L ∧ Keep h0 h ([] : List Addr) ∧ h0.size ≤ x ∧ Exa Z h x "java/lang/String" ∧ Fld Z h x "java/lang/String" "value" "[B" (.ref t) ∧ Fld Z h x "java/lang/String" "coder" "B" (.int (0 : Int32)) ∧ Arv Z h t k .byte (3 : Int32) ((([c0, c1, c2] : List Int32).map (fun c => c.toInt8.toInt32)).map Value.int) (.int (0 : Int32))
theorem dd_method_2_59 : decode method_2_code 59 = .ok (.new 7, 3) := by decide +kernel
theorem dd_method_2_62 : decode method_2_code 62 = .ok (.dup, 1) := by decide +kernel
theorem dd_method_2_63 : decode method_2_code 63 = .ok (.iconst 3, 1) := by decide +kernel
theorem dd_method_2_64 : decode method_2_code 64 = .ok (.newarray .char, 2) := by decide +kernel
theorem dd_method_2_66 : decode method_2_code 66 = .ok (.dup, 1) := by decide +kernel
theorem dd_method_2_67 : decode method_2_code 67 = .ok (.iconst 0, 1) := by decide +kernel
theorem dd_method_2_68 : decode method_2_code 68 = .ok (.iload_n 1, 1) := by decide +kernel
theorem dd_method_2_69 : decode method_2_code 69 = .ok (.castore, 1) := by decide +kernel
theorem dd_method_2_70 : decode method_2_code 70 = .ok (.dup, 1) := by decide +kernel
theorem dd_method_2_71 : decode method_2_code 71 = .ok (.iconst 1, 1) := by decide +kernel
theorem dd_method_2_72 : decode method_2_code 72 = .ok (.iload_n 2, 1) := by decide +kernel
theorem dd_method_2_73 : decode method_2_code 73 = .ok (.castore, 1) := by decide +kernel
theorem dd_method_2_74 : decode method_2_code 74 = .ok (.dup, 1) := by decide +kernel
theorem dd_method_2_75 : decode method_2_code 75 = .ok (.iconst 2, 1) := by decide +kernel
theorem dd_method_2_76 : decode method_2_code 76 = .ok (.iload_n 3, 1) := by decide +kernel
theorem dd_method_2_77 : decode method_2_code 77 = .ok (.castore, 1) := by decide +kernel
theorem dd_method_2_78 : decode method_2_code 78 = .ok (.invokespecial 9, 3) := by decide +kernel
theorem dd_method_2_81 : decode method_2_code 81 = .ok (.areturn, 1) := by decide +kernel
set_option maxRecDepth 65536 in
set_option maxHeartbeats 40000000 in
theorem rm_subs3 (l : Launch) (Z : State) (a0 : Array Value) (hw : ∀ d ∈ tables_1, d.before a0 Z = true) (ws : List Jvm.Cond) (wG1 : Int32) (wO2 : Sta Z Z.heap "java/lang/String" "COMPACT_STRINGS" "Z" (.int wG1)) (wP5 : ¬ (wG1 = (0 : Int32))) (wG3 : Value) (wO4 : Sta Z Z.heap "jdk/internal/util/Preconditions" "SIOOBE_FORMATTER" "Ljava/util/function/BiFunction;" wG3) (wrG3 : wG3.isRef = true) (hstr : ∀ a ∈ Bundle.stringAtoms, a.before a0 Z = true) (hEL : EW Z a0 consts_1) (h0 : Heap) (n0 : Nat) (X00 : Old Z n0 h0) (c0 : Int32) (c1 : Int32) (c2 : Int32) (hc0 : ¬ c0 < 0 ∧ ¬ (255 : Int32) < c0) (hc1 : ¬ c1 < 0 ∧ ¬ (255 : Int32) < c1) (hc2 : ¬ c2 < 0 ∧ ¬ (255 : Int32) < c2) :
    MetFree l (⟨"com/example/fieldwright/fieldwright/FieldStructureAllowsPinLaw", "subs", "(ICCC)Ljava/lang/String;"⟩ : MethodName) (head1 (Jvm.Cond.code (⟨"com/example/fieldwright/fieldwright/FieldStructureAllowsPinLaw", "subs", "(ICCC)Ljava/lang/String;"⟩ : MethodName) method_2_code 4 (some (.object "java/lang/String")) :: ws) ({ frames := 4, cells := 3, slots := 10, locals := 66 } : Room)) (fun a U => a = #[(.int (3 : Int32)), (.int c0), (.int c1), (.int c2)] ∧ Z.Warmed39 U.vm ∧ U.heap = h0) (fun _ _ _ _ _ => True) (fun _ U o U' => ∃ v L, o = .returned v ∧ Q_subs3 Z c0 c1 c2 h0 n0 v U'.heap L ∧ FrameEnd U o U' L ({ frames := 4, cells := 3, slots := 10, locals := 66 } : Room).cells ({ frames := 4, cells := 3, slots := 10, locals := 66 } : Room).slots) := by
  refine MetFree.of_bodySF (plainFor_of_name pn_40884587) hisR ?_
  intro p e s m args below meth c s₁ Bd hml0 hP hK
  obtain ⟨rfl, hZ, hh⟩ := hP
  have hx := Bd.exec
  have hby := Bd.bytes
  have hlk := Bd.notSynchronized
  have hml : c.maxLocals = 4 := hml0
  have hown : s.vm.findClass "com/example/fieldwright/fieldwright/FieldStructureAllowsPinLaw" = some m.cls := findClass_of_methodNamed Bd.named
  have hnm := (name_of_methodNamed Bd.named Bd.method).1
  have X0 : Stand p l e ({ frames := 4, cells := 3, slots := 10, locals := 66 } : Room) s m #[(.int (3 : Int32)), (.int c0), (.int c1), (.int c2)] below meth c s₁ [] 0 0 := Stand.of_body Bd
  have e0 : s₁.heap = h0 := by rw [← hh, Bd.state]; rfl
  have N0 := Fr.nil n0
  have Z0 : n0 ≤ h0.size := X00.1 ▸ X00.2.1
  have K0 : Keep h0 h0 ([] : List Addr) := Keep.refl _ _
  show OwnGoes p e below (fun o U' => ∃ v L, o = .returned v ∧ Q_subs3 Z c0 c1 c2 h0 n0 v U'.heap L ∧ FrameEnd s o U' L ({ frames := 4, cells := 3, slots := 10, locals := 66 } : Room).cells ({ frames := 4, cells := 3, slots := 10, locals := 66 } : Room).slots) s₁ (entryFrame m #[(.int (3 : Int32)), (.int c0), (.int c1), (.int c2)] 4)
  refine OwnGoes.step (T' := s₁) (g' := (mkF m 0 #[.val (.int (3 : Int32)), .val (.int c0), .val (.int c1), .val (.int c2)] [])) (fun tgt kgo => castTop (ef_subs3 m c0 c1 c2) kgo) ?_
  refine OwnGoes.step (T' := s₁) (g' := (mkF m 59 #[.val (.int (3 : Int32)), .val (.int c0), .val (.int c1), .val (.int c2)] [])) (fun tgt kgo => ?_) ?_
  · show Steps p.tables e below (s₁.setTop (mkF m 0 #[.val (.int (3 : Int32)), .val (.int c0), .val (.int c1), .val (.int c2)] [])) tgt
    refine XS.iloadN X0.here hx rfl (hb hby dd_method_2_0) rfl ?_
    show Steps p.tables e below (s₁.setTop (mkF m 1 #[.val (.int (3 : Int32)), .val (.int c0), .val (.int c1), .val (.int c2)] [(.int (3 : Int32))])) tgt
    refine XS.ifYes X0.here hx rfl (pc0 := 1) (pc' := 15) rfl (hb hby dd_method_2_1) rfl ((if0 _ _).trans (feq (by decide : ¬ ((3 : Int32) = (0 : Int32)))).2) (by decide) (by decide) ?_
    show Steps p.tables e below (s₁.setTop (mkF m 15 #[.val (.int (3 : Int32)), .val (.int c0), .val (.int c1), .val (.int c2)] [])) tgt
    refine XS.iloadN X0.here hx rfl (hb hby dd_method_2_15) rfl ?_
    show Steps p.tables e below (s₁.setTop (mkF m 16 #[.val (.int (3 : Int32)), .val (.int c0), .val (.int c1), .val (.int c2)] [(.int (3 : Int32))])) tgt
    refine XS.iconst X0.here hx rfl (hb hby dd_method_2_16) ?_
    show Steps p.tables e below (s₁.setTop (mkF m 17 #[.val (.int (3 : Int32)), .val (.int c0), .val (.int c1), .val (.int c2)] [(.int (1 : Int32)), (.int (3 : Int32))])) tgt
    refine XS.icmpYes X0.here hx rfl (pc0 := 17) (pc' := 35) rfl (hb hby dd_method_2_17) rfl (feq (by decide : ¬ ((3 : Int32) = (1 : Int32)))).2 (by decide) (by decide) ?_
    show Steps p.tables e below (s₁.setTop (mkF m 35 #[.val (.int (3 : Int32)), .val (.int c0), .val (.int c1), .val (.int c2)] [])) tgt
    refine XS.iloadN X0.here hx rfl (hb hby dd_method_2_35) rfl ?_
    show Steps p.tables e below (s₁.setTop (mkF m 36 #[.val (.int (3 : Int32)), .val (.int c0), .val (.int c1), .val (.int c2)] [(.int (3 : Int32))])) tgt
    refine XS.iconst X0.here hx rfl (hb hby dd_method_2_36) ?_
    show Steps p.tables e below (s₁.setTop (mkF m 37 #[.val (.int (3 : Int32)), .val (.int c0), .val (.int c1), .val (.int c2)] [(.int (2 : Int32)), (.int (3 : Int32))])) tgt
    refine XS.icmpYes X0.here hx rfl (pc0 := 37) (pc' := 59) rfl (hb hby dd_method_2_37) rfl (feq (by decide : ¬ ((3 : Int32) = (2 : Int32)))).2 (by decide) (by decide) ?_
    exact kgo
  obtain ⟨T1, h1, X1, e1, E1, A1, D1, U1, st1⟩ := newO X0 hx hZ hown (hw _ (List.mem_of_getElem? (i := 4) rfl)) (hw _ (List.mem_of_getElem? (i := 5) rfl)) (hw _ (List.mem_of_getElem? (i := 6) rfl)) e0 (g := (mkF m 59 #[.val (.int (3 : Int32)), .val (.int c0), .val (.int c1), .val (.int c2)] [])) rfl (hb hby dd_method_2_59) (by decide) (by decide)
  obtain ⟨b1, g1⟩ : ∃ z, z = h0.size := ⟨_, rfl⟩
  rw [← g1] at A1 D1 U1 st1
  refine OwnGoes.step (T' := T1) (g' := (mkF m 62 #[.val (.int (3 : Int32)), .val (.int c0), .val (.int c1), .val (.int c2)] [(.ref b1)])) st1 ?_
  have g_b1 : n0 ≤ b1 := Nat.le_trans (Nat.le_trans Z0 K0.1) (Nat.le_of_eq g1.symm)
  have s_b1 : h0.size ≤ b1 := Nat.le_trans K0.1 (Nat.le_of_eq g1.symm)
  have Ol1 := X00.ext E1
  have K1 : Keep h0 h1 ([] : List Addr) := K0.ext E1
  have F1_1 : Fld Z h1 b1 "java/lang/String" "coder" "B" (.int (0 : Int32)) := D1 (Or.inr (hw _ (List.mem_of_getElem? (i := 31) rfl))) (ty := .byte) (by decide)
  have F1_2 : Fld Z h1 b1 "java/lang/String" "value" "[B" .null := D1 (Or.inr (hw _ (List.mem_of_getElem? (i := 33) rfl))) (ty := (.array .byte)) (by decide)
  refine OwnGoes.step (T' := T1) (g' := (mkF m 64 #[.val (.int (3 : Int32)), .val (.int c0), .val (.int c1), .val (.int c2)] [(.int (3 : Int32)), (.ref b1), (.ref b1)])) (fun tgt kgo => ?_) ?_
  · show Steps p.tables e below (T1.setTop (mkF m 62 #[.val (.int (3 : Int32)), .val (.int c0), .val (.int c1), .val (.int c2)] [(.ref b1)])) tgt
    refine XS.dup X1.here hx rfl (hb hby dd_method_2_62) rfl rfl ?_
    show Steps p.tables e below (T1.setTop (mkF m 63 #[.val (.int (3 : Int32)), .val (.int c0), .val (.int c1), .val (.int c2)] [(.ref b1), (.ref b1)])) tgt
    refine XS.iconst X1.here hx rfl (hb hby dd_method_2_63) ?_
    exact kgo
  obtain ⟨T2, h2, k2, X2, e2, E2, A2, st2⟩ := newP X1 hx hZ (hw _ (List.mem_of_getElem? (i := 7) rfl)) e1 (g := (mkF m 64 #[.val (.int (3 : Int32)), .val (.int c0), .val (.int c1), .val (.int c2)] [(.int (3 : Int32)), (.ref b1), (.ref b1)])) rfl (hb hby dd_method_2_64) rfl (by decide) (cap := 3) (by decide) (by decide) (by decide) (by decide)
  obtain ⟨b2, g2⟩ : ∃ z, z = h1.size := ⟨_, rfl⟩
  rw [← g2] at A2 st2
  refine OwnGoes.step (T' := T2) (g' := (mkF m 66 #[.val (.int (3 : Int32)), .val (.int c0), .val (.int c1), .val (.int c2)] [(.ref b2), (.ref b1), (.ref b1)])) st2 ?_
  have V2 : Arv Z h2 b2 k2 .char (3 : Int32) [(.int (0 : Int32)), (.int (0 : Int32)), (.int (0 : Int32))] (.int (0 : Int32)) := (Arv.new A2 (by decide)).pad (pad_rep [] (.int (0 : Int32)) 3)
  have ne_b1_b2 : b1 ≠ b2 := Nat.ne_of_lt (Nat.lt_of_lt_of_le A1.lt (Nat.le_of_eq g2.symm))
  have g_b2 : n0 ≤ b2 := Nat.le_trans (Nat.le_trans Z0 K1.1) (Nat.le_of_eq g2.symm)
  have s_b2 : h0.size ≤ b2 := Nat.le_trans K1.1 (Nat.le_of_eq g2.symm)
  have F2_3 := A1.ext E2
  have F2_4 := F1_1.ext E2
  have F2_5 := F1_2.ext E2
  have Ol2 := Ol1.ext E2
  have K2 : Keep h0 h2 ([] : List Addr) := K1.ext E2
  refine OwnGoes.step (T' := T2) (g' := (mkF m 69 #[.val (.int (3 : Int32)), .val (.int c0), .val (.int c1), .val (.int c2)] [(.int c0), (.int (0 : Int32)), (.ref b2), (.ref b2), (.ref b1), (.ref b1)])) (fun tgt kgo => ?_) ?_
  · show Steps p.tables e below (T2.setTop (mkF m 66 #[.val (.int (3 : Int32)), .val (.int c0), .val (.int c1), .val (.int c2)] [(.ref b2), (.ref b1), (.ref b1)])) tgt
    refine XS.dup X2.here hx rfl (hb hby dd_method_2_66) rfl rfl ?_
    show Steps p.tables e below (T2.setTop (mkF m 67 #[.val (.int (3 : Int32)), .val (.int c0), .val (.int c1), .val (.int c2)] [(.ref b2), (.ref b2), (.ref b1), (.ref b1)])) tgt
    refine XS.iconst X2.here hx rfl (hb hby dd_method_2_67) ?_
    show Steps p.tables e below (T2.setTop (mkF m 68 #[.val (.int (3 : Int32)), .val (.int c0), .val (.int c1), .val (.int c2)] [(.int (0 : Int32)), (.ref b2), (.ref b2), (.ref b1), (.ref b1)])) tgt
    refine XS.iloadN X2.here hx rfl (hb hby dd_method_2_68) rfl ?_
    exact kgo
  obtain ⟨cl3, Ar3, q3, S3, M3, H3, G3⟩ := id V2
  obtain ⟨T3, h3, X3, e3, W3, st3⟩ := stC X2 hx hZ e2 Ar3 (j := (0 : Int32)) (inb_of S3 ⟨by decide, by decide⟩) (g := (mkF m 69 #[.val (.int (3 : Int32)), .val (.int c0), .val (.int c1), .val (.int c2)] [(.int c0), (.int (0 : Int32)), (.ref b2), (.ref b2), (.ref b1), (.ref b1)])) rfl rfl (hb hby dd_method_2_69)
  refine OwnGoes.step (T' := T3) (g' := (mkF m 70 #[.val (.int (3 : Int32)), .val (.int c0), .val (.int c1), .val (.int c2)] [(.ref b2), (.ref b1), (.ref b1)])) st3 ?_
  have V3 : Arv Z h3 b2 k2 .char (3 : Int32) [(.int (nar .char c0)), (.int (0 : Int32)), (.int (0 : Int32))] (.int (0 : Int32)) := Arv.set Ar3 q3 S3 M3 H3 G3 (fits_nar_char _) W3 0 rfl (Nat.le_of_ble_eq_true rfl)
  rw [(own_nar_lat hc0)] at V3
  have V3' : Arv Z h3 b2 k2 .char (3 : Int32) [(.int c0), (.int (0 : Int32)), (.int (0 : Int32))] (.int (0 : Int32)) := V3
  have F3_6 := F2_3.wr W3
  have F3_7 := F2_4.other W3 (Or.inl ne_b1_b2)
  have F3_8 := F2_5.other W3 (Or.inl ne_b1_b2)
  have Ol3 := Ol2.wr W3 g_b2
  have K3 : Keep h0 h3 ([] : List Addr) := K2.wr W3 (Or.inr s_b2)
  have N3 := Fr.snoc X3 N0 g_b2
  refine OwnGoes.step (T' := T3) (g' := (mkF m 73 #[.val (.int (3 : Int32)), .val (.int c0), .val (.int c1), .val (.int c2)] [(.int c1), (.int (1 : Int32)), (.ref b2), (.ref b2), (.ref b1), (.ref b1)])) (fun tgt kgo => ?_) ?_
  · show Steps p.tables e below (T3.setTop (mkF m 70 #[.val (.int (3 : Int32)), .val (.int c0), .val (.int c1), .val (.int c2)] [(.ref b2), (.ref b1), (.ref b1)])) tgt
    refine XS.dup X3.here hx rfl (hb hby dd_method_2_70) rfl rfl ?_
    show Steps p.tables e below (T3.setTop (mkF m 71 #[.val (.int (3 : Int32)), .val (.int c0), .val (.int c1), .val (.int c2)] [(.ref b2), (.ref b2), (.ref b1), (.ref b1)])) tgt
    refine XS.iconst X3.here hx rfl (hb hby dd_method_2_71) ?_
    show Steps p.tables e below (T3.setTop (mkF m 72 #[.val (.int (3 : Int32)), .val (.int c0), .val (.int c1), .val (.int c2)] [(.int (1 : Int32)), (.ref b2), (.ref b2), (.ref b1), (.ref b1)])) tgt
    refine XS.iloadN X3.here hx rfl (hb hby dd_method_2_72) rfl ?_
    exact kgo
  obtain ⟨cl4, Ar4, q4, S4, M4, H4, G4⟩ := id V3'
  obtain ⟨T4, h4, X4, e4, W4, st4⟩ := stC X3 hx hZ e3 Ar4 (j := (1 : Int32)) (inb_of S4 ⟨by decide, by decide⟩) (g := (mkF m 73 #[.val (.int (3 : Int32)), .val (.int c0), .val (.int c1), .val (.int c2)] [(.int c1), (.int (1 : Int32)), (.ref b2), (.ref b2), (.ref b1), (.ref b1)])) rfl rfl (hb hby dd_method_2_73)
  refine OwnGoes.step (T' := T4) (g' := (mkF m 74 #[.val (.int (3 : Int32)), .val (.int c0), .val (.int c1), .val (.int c2)] [(.ref b2), (.ref b1), (.ref b1)])) st4 ?_
  have V4 : Arv Z h4 b2 k2 .char (3 : Int32) [(.int c0), (.int (nar .char c1)), (.int (0 : Int32))] (.int (0 : Int32)) := Arv.set Ar4 q4 S4 M4 H4 G4 (fits_nar_char _) W4 1 rfl (Nat.le_of_ble_eq_true rfl)
  rw [(own_nar_lat hc1)] at V4
  have V4' : Arv Z h4 b2 k2 .char (3 : Int32) [(.int c0), (.int c1), (.int (0 : Int32))] (.int (0 : Int32)) := V4
  have F4_9 := F3_6.wr W4
  have F4_10 := F3_7.other W4 (Or.inl ne_b1_b2)
  have F4_11 := F3_8.other W4 (Or.inl ne_b1_b2)
  have Ol4 := Ol3.wr W4 g_b2
  have K4 : Keep h0 h4 ([] : List Addr) := K3.wr W4 (Or.inr s_b2)
  have N4 := Fr.snoc X4 N3 g_b2
  refine OwnGoes.step (T' := T4) (g' := (mkF m 77 #[.val (.int (3 : Int32)), .val (.int c0), .val (.int c1), .val (.int c2)] [(.int c2), (.int (2 : Int32)), (.ref b2), (.ref b2), (.ref b1), (.ref b1)])) (fun tgt kgo => ?_) ?_
  · show Steps p.tables e below (T4.setTop (mkF m 74 #[.val (.int (3 : Int32)), .val (.int c0), .val (.int c1), .val (.int c2)] [(.ref b2), (.ref b1), (.ref b1)])) tgt
    refine XS.dup X4.here hx rfl (hb hby dd_method_2_74) rfl rfl ?_
    show Steps p.tables e below (T4.setTop (mkF m 75 #[.val (.int (3 : Int32)), .val (.int c0), .val (.int c1), .val (.int c2)] [(.ref b2), (.ref b2), (.ref b1), (.ref b1)])) tgt
    refine XS.iconst X4.here hx rfl (hb hby dd_method_2_75) ?_
    show Steps p.tables e below (T4.setTop (mkF m 76 #[.val (.int (3 : Int32)), .val (.int c0), .val (.int c1), .val (.int c2)] [(.int (2 : Int32)), (.ref b2), (.ref b2), (.ref b1), (.ref b1)])) tgt
    refine XS.iloadN X4.here hx rfl (hb hby dd_method_2_76) rfl ?_
    exact kgo
  obtain ⟨cl5, Ar5, q5, S5, M5, H5, G5⟩ := id V4'
  obtain ⟨T5, h5, X5, e5, W5, st5⟩ := stC X4 hx hZ e4 Ar5 (j := (2 : Int32)) (inb_of S5 ⟨by decide, by decide⟩) (g := (mkF m 77 #[.val (.int (3 : Int32)), .val (.int c0), .val (.int c1), .val (.int c2)] [(.int c2), (.int (2 : Int32)), (.ref b2), (.ref b2), (.ref b1), (.ref b1)])) rfl rfl (hb hby dd_method_2_77)
  refine OwnGoes.step (T' := T5) (g' := (mkF m 78 #[.val (.int (3 : Int32)), .val (.int c0), .val (.int c1), .val (.int c2)] [(.ref b2), (.ref b1), (.ref b1)])) st5 ?_
  have V5 : Arv Z h5 b2 k2 .char (3 : Int32) [(.int c0), (.int c1), (.int (nar .char c2))] (.int (0 : Int32)) := Arv.set Ar5 q5 S5 M5 H5 G5 (fits_nar_char _) W5 2 rfl (Nat.le_of_ble_eq_true rfl)
  rw [(own_nar_lat hc2)] at V5
  have V5' : Arv Z h5 b2 k2 .char (3 : Int32) [(.int c0), (.int c1), (.int c2)] (.int (0 : Int32)) := V5
  have F5_12 := F4_9.wr W5
  have F5_13 := F4_10.other W5 (Or.inl ne_b1_b2)
  have F5_14 := F4_11.other W5 (Or.inl ne_b1_b2)
  have Ol5 := Ol4.wr W5 g_b2
  have K5 : Keep h0 h5 ([] : List Addr) := K4.wr W5 (Or.inr s_b2)
  have N5 := Fr.snoc X5 N4 g_b2
  have hp7 : ∀ c ∈ ([c0, c1, c2] : List Int32), ¬ c < 0 ∧ ¬ (255 : Int32) < c := (own_memS hc0 (own_memS hc1 (own_memS hc2 own_mem0)))
  have V7c : Arv Z h5 b2 k2 .char (3 : Int32) (([c0, c1, c2] : List Int32).map Value.int) (.int (0 : Int32)) := V5'
  obtain ⟨_, _, ⟨T6, L6, k6, n6⟩, -, X6, ⟨Lc6, hQ6, l6, y6, z6⟩, st6⟩ := X5.specialBack hx (y := (⟨"java/lang/String", "<init>", "([C)V"⟩ : MethodName)) rfl hown (mvT hZ (hw _ (List.mem_of_getElem? (i := 8) rfl))) (mvT hZ (hw _ (List.mem_of_getElem? (i := 9) rfl))) (mvT hZ (hw _ (List.mem_of_getElem? (i := 10) rfl))) (by decide) (StrChars.Road.backV (W := 1) hZ (fun d hd => hw d (own_hws d hd)) (kI := 4) (hw _ (List.mem_of_getElem? (i := 5) rfl)) (cs := ([c0, c1, c2] : List Int32)) (bs := ([c0, c1, c2] : List Int32).map (fun c => c.toInt8.toInt32)) (n := 3) g_b1 (Nat.le_trans Z0 K5.1) F5_12 F5_14 F5_13 V7c (wO2.ext Ol5.2) wP5 rfl rfl (by decide) (by decide) hp7 rfl (by decide) (by decide)) (g := (mkF m 78 #[.val (.int (3 : Int32)), .val (.int c0), .val (.int c1), .val (.int c2)] [(.ref b2), (.ref b1), (.ref b1)])) rfl (by rw [hml]; rfl) (Steps.refl _) (a := b1) (argsL := [(.ref b2)]) (rest := [(.ref b1)]) (lenOf pd_68446664 rfl) rfl (by show 2 * 0 + _ ≤ _; exact Nat.le_of_eq rfl) (hb hby dd_method_2_78) (fun _ _ => ⟨rfl, e5, (by decide : 2 + 1 ≤ _), (by decide : 7 + 3 ≤ _)⟩)
  dsimp only [Pt.U, Pt.locs, Pt.cells, Pt.slots] at X6 l6 y6 z6 st6 hQ6
  subst l6 y6 z6
  obtain ⟨rfl, Nq6, Kq6, fe6, fc6, t6, kb6, ut6, vt6, wt6, fv6, fa6⟩ := hQ6
  refine OwnGoes.tr (T' := T6) (g' := (mkF m 81 #[.val (.int (3 : Int32)), .val (.int c0), .val (.int c1), .val (.int c2)] [(.ref b1)])) st6 ?_
  have N6 := Fr.app N5 Nq6
  have ne_b1_t6 : b1 ≠ t6 := Nat.ne_of_lt (Nat.lt_of_lt_of_le F5_12.lt vt6)
  have ne_b2_t6 : b2 ≠ t6 := Nat.ne_of_lt (Nat.lt_of_lt_of_le V5'.lt vt6)
  have g_t6 : n0 ≤ t6 := Nat.le_trans (Nat.le_trans Z0 K5.1) vt6
  have s_t6 : h0.size ≤ t6 := Nat.le_trans K5.1 vt6
  have F6_15 := F5_12.keep Kq6
  have F6_16 := V5'.keep Kq6 (ninS (Ne.symm ne_b1_b2) nin0)
  have Ol6 := Ol5.keep Kq6 (allS g_b1 all0)
  have K6 : Keep h0 T6.heap ([] : List Addr) := K5.trans Kq6 (allS (Or.inr s_b1) all0)
  have hret : ∀ fs, (∀ (f : JFrame) (acts : List Action), f.method = m → f.locked = none → f.entered = [] → (doReturn e (T6.setTop f) acts (some (.ref b1))).1 = T6.setFrames fs) → Steps p.tables e below (T6.setTop (mkF m 81 #[.val (.int (3 : Int32)), .val (.int c0), .val (.int c1), .val (.int c2)] [(.ref b1)])) (T6.setFrames fs) := by
    intro fs hr
    jvm_step X6.here [X6.here.top, hx, (hb hby dd_method_2_81), X6.method', Bd.returns, Value.isRef, FieldType.isReference]
    first | (intro acts; rw [hr _ acts rfl rfl rfl]) | rw [hr _ _ rfl rfl rfl]
    exact Steps.refl _
  refine own_leave X6 hlk (v := some (.ref b1)) (fun h => by rw [Bd.returns] at h; cases h) hret (by decide) (by decide) ?_
  show Q_subs3 Z c0 c1 c2 h0 n0 _ T6.heap _
  exact ⟨b1, t6, kb6, rfl, N6, K6, s_b1, fe6, fv6, fc6, fa6⟩
theorem ef_isl (m : MethodId) (x0 : Addr) : entryFrame m #[(.ref x0)] 1 = mkF m 0 #[.val (.ref x0)] [] := by first | (simp [entryFrame, mkF, argsToLocals, Value.category]; done) | rfl
def Q_isl (Z : State) (a1 : Addr) (h0 : Heap) (n0 : Nat) (v : Option Value) (h : Heap) (L : List Loc) : Prop := v = some (.int (1 : Int32)) ∧ Fr n0 L ∧ h = h0
theorem dd_jdk_42_method_154_0 : decode jdk_42_method_154_code 0 = .ok (.getstatic 38, 3) := by decide +kernel
theorem dd_jdk_42_method_154_3 : decode jdk_42_method_154_code 3 = .ok (.ifCond .eq 14, 3) := by decide +kernel
theorem dd_jdk_42_method_154_6 : decode jdk_42_method_154_code 6 = .ok (.aload_n 0, 1) := by decide +kernel
theorem dd_jdk_42_method_154_7 : decode jdk_42_method_154_code 7 = .ok (.getfield 15, 3) := by decide +kernel
theorem dd_jdk_42_method_154_10 : decode jdk_42_method_154_code 10 = .ok (.ifCond .ne 7, 3) := by decide +kernel
theorem dd_jdk_42_method_154_13 : decode jdk_42_method_154_code 13 = .ok (.iconst 1, 1) := by decide +kernel
theorem dd_jdk_42_method_154_14 : decode jdk_42_method_154_code 14 = .ok (.goto 4, 3) := by decide +kernel
theorem dd_jdk_42_method_154_18 : decode jdk_42_method_154_code 18 = .ok (.ireturn, 1) := by decide +kernel
set_option maxRecDepth 65536 in
set_option maxHeartbeats 40000000 in
theorem rm_isl (l : Launch) (Z : State) (a0 : Array Value) (hw : ∀ d ∈ tables_1, d.before a0 Z = true) (ws : List Jvm.Cond) (wG1 : Int32) (wO2 : Sta Z Z.heap "java/lang/String" "COMPACT_STRINGS" "Z" (.int wG1)) (wP5 : ¬ (wG1 = (0 : Int32))) (wG3 : Value) (wO4 : Sta Z Z.heap "jdk/internal/util/Preconditions" "SIOOBE_FORMATTER" "Ljava/util/function/BiFunction;" wG3) (wrG3 : wG3.isRef = true) (hstr : ∀ a ∈ Bundle.stringAtoms, a.before a0 Z = true) (hEL : EW Z a0 consts_1) (h0 : Heap) (n0 : Nat) (X00 : Old Z n0 h0) (a1 : Addr) (f0 : Fld Z h0 a1 "java/lang/String" "coder" "B" (.int (0 : Int32))) :
    MetFree l (⟨"java/lang/String", "isLatin1", "()Z"⟩ : MethodName) (head1 (Jvm.Cond.code (⟨"java/lang/String", "isLatin1", "()Z"⟩ : MethodName) jdk_42_method_154_code 1 (some .boolean) :: ws) ({ frames := 0, cells := 0, slots := 0, locals := 0 } : Room)) (fun a U => a = #[(.ref a1)] ∧ Z.Warmed39 U.vm ∧ U.heap = h0) (fun _ _ _ _ _ => True) (fun _ U o U' => ∃ v L, o = .returned v ∧ Q_isl Z a1 h0 n0 v U'.heap L ∧ FrameEnd U o U' L ({ frames := 0, cells := 0, slots := 0, locals := 0 } : Room).cells ({ frames := 0, cells := 0, slots := 0, locals := 0 } : Room).slots) := by
  refine MetFree.of_bodySF (plainFor_of_name pn_52039224) hisR ?_
  intro p e s m args below meth c s₁ Bd hml0 hP hK
  obtain ⟨rfl, hZ, hh⟩ := hP
  have hx := Bd.exec
  have hby := Bd.bytes
  have hlk := Bd.notSynchronized
  have hml : c.maxLocals = 1 := hml0
  have hown : s.vm.findClass "java/lang/String" = some m.cls := findClass_of_methodNamed Bd.named
  have hnm := (name_of_methodNamed Bd.named Bd.method).1
  have X0 : Stand p l e ({ frames := 0, cells := 0, slots := 0, locals := 0 } : Room) s m #[(.ref a1)] below meth c s₁ [] 0 0 := Stand.of_body Bd
  have e0 : s₁.heap = h0 := by rw [← hh, Bd.state]; rfl
  have N0 := Fr.nil n0
  have Z0 : n0 ≤ h0.size := X00.1 ▸ X00.2.1
  have K0 : Keep h0 h0 ([] : List Addr) := Keep.refl _ _
  show OwnGoes p e below (fun o U' => ∃ v L, o = .returned v ∧ Q_isl Z a1 h0 n0 v U'.heap L ∧ FrameEnd s o U' L ({ frames := 0, cells := 0, slots := 0, locals := 0 } : Room).cells ({ frames := 0, cells := 0, slots := 0, locals := 0 } : Room).slots) s₁ (entryFrame m #[(.ref a1)] 1)
  refine OwnGoes.step (T' := s₁) (g' := (mkF m 0 #[.val (.ref a1)] [])) (fun tgt kgo => castTop (ef_isl m a1) kgo) ?_
  obtain ⟨T1, X1, e1, st1⟩ := getS2 X0 hx hZ hown (host := "") (Or.inl (hw _ (List.mem_of_getElem? (i := 18) rfl))) Via.refl e0 (wO2.ext X00.2) (g := (mkF m 0 #[.val (.ref a1)] [])) rfl (hb hby dd_jdk_42_method_154_0)
  refine OwnGoes.step (T' := T1) (g' := (mkF m 3 #[.val (.ref a1)] [(.int wG1)])) st1 ?_
  refine OwnGoes.step (T' := T1) (g' := (mkF m 7 #[.val (.ref a1)] [(.ref a1)])) (fun tgt kgo => ?_) ?_
  · show Steps p.tables e below (T1.setTop (mkF m 3 #[.val (.ref a1)] [(.int wG1)])) tgt
    refine XS.ifNo X1.here hx rfl (hb hby dd_jdk_42_method_154_3) rfl ((if0 _ _).trans (feq wP5).1) ?_
    show Steps p.tables e below (T1.setTop (mkF m 6 #[.val (.ref a1)] [])) tgt
    refine XS.aloadN X1.here hx rfl (hb hby dd_jdk_42_method_154_6) rfl rfl ?_
    exact kgo
  obtain ⟨T2, X2, e2, st2⟩ := getF X1 hx hZ hown (host := "") (Or.inl (hw _ (List.mem_of_getElem? (i := 30) rfl))) Via.refl e1 f0 (g := (mkF m 7 #[.val (.ref a1)] [(.ref a1)])) rfl rfl (hb hby dd_jdk_42_method_154_7)
  refine OwnGoes.step (T' := T2) (g' := (mkF m 10 #[.val (.ref a1)] [(.int (0 : Int32))])) st2 ?_
  refine OwnGoes.step (T' := T2) (g' := (mkF m 18 #[.val (.ref a1)] [(.int (1 : Int32))])) (fun tgt kgo => ?_) ?_
  · show Steps p.tables e below (T2.setTop (mkF m 10 #[.val (.ref a1)] [(.int (0 : Int32))])) tgt
    refine XS.ifNo X2.here hx rfl (hb hby dd_jdk_42_method_154_10) rfl ((if0 _ _).trans (teq (by decide : (0 : Int32) = (0 : Int32))).2) ?_
    show Steps p.tables e below (T2.setTop (mkF m 13 #[.val (.ref a1)] [])) tgt
    refine XS.iconst X2.here hx rfl (hb hby dd_jdk_42_method_154_13) ?_
    show Steps p.tables e below (T2.setTop (mkF m 14 #[.val (.ref a1)] [(.int (1 : Int32))])) tgt
    refine XS.goto X2.here hx rfl (pc0 := 14) (pc' := 18) rfl (hb hby dd_jdk_42_method_154_14) (by decide) (by decide) ?_
    exact kgo
  refine own_leave X2 hlk (v := some (.int (1 : Int32))) (fun h => by rw [Bd.returns] at h; cases h) (fun fs hr => retN X2 hx (t := .boolean) Bd.returns (by simp) (hb hby dd_jdk_42_method_154_18) (by rw [(by decide : nar .boolean (1 : Int32) = (1 : Int32))]; exact hr)) (by decide) (by decide) ?_
  show Q_isl Z a1 h0 n0 _ T2.heap _
  rw [e2]
  exact ⟨rfl, N0, rfl⟩
theorem ef_cod (m : MethodId) (x0 : Addr) : entryFrame m #[(.ref x0)] 1 = mkF m 0 #[.val (.ref x0)] [] := by first | (simp [entryFrame, mkF, argsToLocals, Value.category]; done) | rfl
def Q_cod (Z : State) (a1 : Addr) (h0 : Heap) (n0 : Nat) (v : Option Value) (h : Heap) (L : List Loc) : Prop := v = some (.int (0 : Int32)) ∧ Fr n0 L ∧ h = h0
theorem dd_jdk_42_method_152_0 : decode jdk_42_method_152_code 0 = .ok (.getstatic 38, 3) := by decide +kernel
theorem dd_jdk_42_method_152_3 : decode jdk_42_method_152_code 3 = .ok (.ifCond .eq 10, 3) := by decide +kernel
theorem dd_jdk_42_method_152_6 : decode jdk_42_method_152_code 6 = .ok (.aload_n 0, 1) := by decide +kernel
theorem dd_jdk_42_method_152_7 : decode jdk_42_method_152_code 7 = .ok (.getfield 15, 3) := by decide +kernel
theorem dd_jdk_42_method_152_10 : decode jdk_42_method_152_code 10 = .ok (.goto 4, 3) := by decide +kernel
theorem dd_jdk_42_method_152_14 : decode jdk_42_method_152_code 14 = .ok (.ireturn, 1) := by decide +kernel
set_option maxRecDepth 65536 in
set_option maxHeartbeats 40000000 in
theorem rm_cod (l : Launch) (Z : State) (a0 : Array Value) (hw : ∀ d ∈ tables_1, d.before a0 Z = true) (ws : List Jvm.Cond) (wG1 : Int32) (wO2 : Sta Z Z.heap "java/lang/String" "COMPACT_STRINGS" "Z" (.int wG1)) (wP5 : ¬ (wG1 = (0 : Int32))) (wG3 : Value) (wO4 : Sta Z Z.heap "jdk/internal/util/Preconditions" "SIOOBE_FORMATTER" "Ljava/util/function/BiFunction;" wG3) (wrG3 : wG3.isRef = true) (hstr : ∀ a ∈ Bundle.stringAtoms, a.before a0 Z = true) (hEL : EW Z a0 consts_1) (h0 : Heap) (n0 : Nat) (X00 : Old Z n0 h0) (a1 : Addr) (f0 : Fld Z h0 a1 "java/lang/String" "coder" "B" (.int (0 : Int32))) :
    MetFree l (⟨"java/lang/String", "coder", "()B"⟩ : MethodName) (head1 (Jvm.Cond.code (⟨"java/lang/String", "coder", "()B"⟩ : MethodName) jdk_42_method_152_code 1 (some .byte) :: ws) ({ frames := 0, cells := 0, slots := 0, locals := 0 } : Room)) (fun a U => a = #[(.ref a1)] ∧ Z.Warmed39 U.vm ∧ U.heap = h0) (fun _ _ _ _ _ => True) (fun _ U o U' => ∃ v L, o = .returned v ∧ Q_cod Z a1 h0 n0 v U'.heap L ∧ FrameEnd U o U' L ({ frames := 0, cells := 0, slots := 0, locals := 0 } : Room).cells ({ frames := 0, cells := 0, slots := 0, locals := 0 } : Room).slots) := by
  refine MetFree.of_bodySF (plainFor_of_name pn_52039224) hisR ?_
  intro p e s m args below meth c s₁ Bd hml0 hP hK
  obtain ⟨rfl, hZ, hh⟩ := hP
  have hx := Bd.exec
  have hby := Bd.bytes
  have hlk := Bd.notSynchronized
  have hml : c.maxLocals = 1 := hml0
  have hown : s.vm.findClass "java/lang/String" = some m.cls := findClass_of_methodNamed Bd.named
  have hnm := (name_of_methodNamed Bd.named Bd.method).1
  have X0 : Stand p l e ({ frames := 0, cells := 0, slots := 0, locals := 0 } : Room) s m #[(.ref a1)] below meth c s₁ [] 0 0 := Stand.of_body Bd
  have e0 : s₁.heap = h0 := by rw [← hh, Bd.state]; rfl
  have N0 := Fr.nil n0
  have Z0 : n0 ≤ h0.size := X00.1 ▸ X00.2.1
  have K0 : Keep h0 h0 ([] : List Addr) := Keep.refl _ _
  show OwnGoes p e below (fun o U' => ∃ v L, o = .returned v ∧ Q_cod Z a1 h0 n0 v U'.heap L ∧ FrameEnd s o U' L ({ frames := 0, cells := 0, slots := 0, locals := 0 } : Room).cells ({ frames := 0, cells := 0, slots := 0, locals := 0 } : Room).slots) s₁ (entryFrame m #[(.ref a1)] 1)
  refine OwnGoes.step (T' := s₁) (g' := (mkF m 0 #[.val (.ref a1)] [])) (fun tgt kgo => castTop (ef_cod m a1) kgo) ?_
  obtain ⟨T1, X1, e1, st1⟩ := getS2 X0 hx hZ hown (host := "") (Or.inl (hw _ (List.mem_of_getElem? (i := 18) rfl))) Via.refl e0 (wO2.ext X00.2) (g := (mkF m 0 #[.val (.ref a1)] [])) rfl (hb hby dd_jdk_42_method_152_0)
  refine OwnGoes.step (T' := T1) (g' := (mkF m 3 #[.val (.ref a1)] [(.int wG1)])) st1 ?_
  refine OwnGoes.step (T' := T1) (g' := (mkF m 7 #[.val (.ref a1)] [(.ref a1)])) (fun tgt kgo => ?_) ?_
  · show Steps p.tables e below (T1.setTop (mkF m 3 #[.val (.ref a1)] [(.int wG1)])) tgt
    refine XS.ifNo X1.here hx rfl (hb hby dd_jdk_42_method_152_3) rfl ((if0 _ _).trans (feq wP5).1) ?_
    show Steps p.tables e below (T1.setTop (mkF m 6 #[.val (.ref a1)] [])) tgt
    refine XS.aloadN X1.here hx rfl (hb hby dd_jdk_42_method_152_6) rfl rfl ?_
    exact kgo
  obtain ⟨T2, X2, e2, st2⟩ := getF X1 hx hZ hown (host := "") (Or.inl (hw _ (List.mem_of_getElem? (i := 30) rfl))) Via.refl e1 f0 (g := (mkF m 7 #[.val (.ref a1)] [(.ref a1)])) rfl rfl (hb hby dd_jdk_42_method_152_7)
  refine OwnGoes.step (T' := T2) (g' := (mkF m 10 #[.val (.ref a1)] [(.int (0 : Int32))])) st2 ?_
  refine OwnGoes.step (T' := T2) (g' := (mkF m 14 #[.val (.ref a1)] [(.int (0 : Int32))])) (fun tgt kgo => ?_) ?_
  · show Steps p.tables e below (T2.setTop (mkF m 10 #[.val (.ref a1)] [(.int (0 : Int32))])) tgt
    refine XS.goto X2.here hx rfl (pc0 := 10) (pc' := 14) rfl (hb hby dd_jdk_42_method_152_10) (by decide) (by decide) ?_
    exact kgo
  refine own_leave X2 hlk (v := some (.int (0 : Int32))) (fun h => by rw [Bd.returns] at h; cases h) (fun fs hr => retN X2 hx (t := .byte) Bd.returns (by simp) (hb hby dd_jdk_42_method_152_14) (by rw [(by decide : nar .byte (0 : Int32) = (0 : Int32))]; exact hr)) (by decide) (by decide) ?_
  show Q_cod Z a1 h0 n0 _ T2.heap _
  rw [e2]
  exact ⟨rfl, N0, rfl⟩
theorem ef_cei (m : MethodId) (x0 : Int32) : entryFrame m #[(.int x0)] 1 = mkF m 0 #[.val (.int x0)] [] := by first | (simp [entryFrame, mkF, argsToLocals, Value.category]; done) | rfl
def Q_cei (Z : State) (q : Int32) (h0 : Heap) (n0 : Nat) (v : Option Value) (h : Heap) (L : List Loc) : Prop := v = some (.int (1 : Int32)) ∧ Fr n0 L ∧ h = h0
theorem dd_jdk_43_method_4_0 : decode jdk_43_method_4_code 0 = .ok (.iload_n 0, 1) := by decide +kernel
theorem dd_jdk_43_method_4_1 : decode jdk_43_method_4_code 1 = .ok (.ifCond .lt 14, 3) := by decide +kernel
theorem dd_jdk_43_method_4_4 : decode jdk_43_method_4_code 4 = .ok (.iload_n 0, 1) := by decide +kernel
theorem dd_jdk_43_method_4_5 : decode jdk_43_method_4_code 5 = .ok (.sipush 255, 3) := by decide +kernel
theorem dd_jdk_43_method_4_8 : decode jdk_43_method_4_code 8 = .ok (.if_icmp .gt 7, 3) := by decide +kernel
theorem dd_jdk_43_method_4_11 : decode jdk_43_method_4_code 11 = .ok (.iconst 1, 1) := by decide +kernel
theorem dd_jdk_43_method_4_12 : decode jdk_43_method_4_code 12 = .ok (.goto 4, 3) := by decide +kernel
theorem dd_jdk_43_method_4_16 : decode jdk_43_method_4_code 16 = .ok (.ireturn, 1) := by decide +kernel
set_option maxRecDepth 65536 in
set_option maxHeartbeats 40000000 in
theorem rm_cei (l : Launch) (Z : State) (a0 : Array Value) (hw : ∀ d ∈ tables_1, d.before a0 Z = true) (ws : List Jvm.Cond) (wG1 : Int32) (wO2 : Sta Z Z.heap "java/lang/String" "COMPACT_STRINGS" "Z" (.int wG1)) (wP5 : ¬ (wG1 = (0 : Int32))) (wG3 : Value) (wO4 : Sta Z Z.heap "jdk/internal/util/Preconditions" "SIOOBE_FORMATTER" "Ljava/util/function/BiFunction;" wG3) (wrG3 : wG3.isRef = true) (hstr : ∀ a ∈ Bundle.stringAtoms, a.before a0 Z = true) (hEL : EW Z a0 consts_1) (h0 : Heap) (n0 : Nat) (X00 : Old Z n0 h0) (q : Int32) (hq : ¬ q < 0 ∧ ¬ (255 : Int32) < q) :
    MetFree l (⟨"java/lang/StringLatin1", "canEncode", "(I)Z"⟩ : MethodName) (head1 (Jvm.Cond.code (⟨"java/lang/StringLatin1", "canEncode", "(I)Z"⟩ : MethodName) jdk_43_method_4_code 1 (some .boolean) :: ws) ({ frames := 0, cells := 0, slots := 0, locals := 0 } : Room)) (fun a U => a = #[(.int q)] ∧ Z.Warmed39 U.vm ∧ U.heap = h0) (fun _ _ _ _ _ => True) (fun _ U o U' => ∃ v L, o = .returned v ∧ Q_cei Z q h0 n0 v U'.heap L ∧ FrameEnd U o U' L ({ frames := 0, cells := 0, slots := 0, locals := 0 } : Room).cells ({ frames := 0, cells := 0, slots := 0, locals := 0 } : Room).slots) := by
  refine MetFree.of_bodySF (plainFor_of_name pn_54843740) hisR ?_
  intro p e s m args below meth c s₁ Bd hml0 hP hK
  obtain ⟨rfl, hZ, hh⟩ := hP
  have hx := Bd.exec
  have hby := Bd.bytes
  have hlk := Bd.notSynchronized
  have hml : c.maxLocals = 1 := hml0
  have hown : s.vm.findClass "java/lang/StringLatin1" = some m.cls := findClass_of_methodNamed Bd.named
  have hnm := (name_of_methodNamed Bd.named Bd.method).1
  have X0 : Stand p l e ({ frames := 0, cells := 0, slots := 0, locals := 0 } : Room) s m #[(.int q)] below meth c s₁ [] 0 0 := Stand.of_body Bd
  have e0 : s₁.heap = h0 := by rw [← hh, Bd.state]; rfl
  have N0 := Fr.nil n0
  have Z0 : n0 ≤ h0.size := X00.1 ▸ X00.2.1
  have K0 : Keep h0 h0 ([] : List Addr) := Keep.refl _ _
  show OwnGoes p e below (fun o U' => ∃ v L, o = .returned v ∧ Q_cei Z q h0 n0 v U'.heap L ∧ FrameEnd s o U' L ({ frames := 0, cells := 0, slots := 0, locals := 0 } : Room).cells ({ frames := 0, cells := 0, slots := 0, locals := 0 } : Room).slots) s₁ (entryFrame m #[(.int q)] 1)
  refine OwnGoes.step (T' := s₁) (g' := (mkF m 0 #[.val (.int q)] [])) (fun tgt kgo => castTop (ef_cei m q) kgo) ?_
  refine OwnGoes.step (T' := s₁) (g' := (mkF m 16 #[.val (.int q)] [(.int (1 : Int32))])) (fun tgt kgo => ?_) ?_
  · show Steps p.tables e below (s₁.setTop (mkF m 0 #[.val (.int q)] [])) tgt
    refine XS.iloadN X0.here hx rfl (hb hby dd_jdk_43_method_4_0) rfl ?_
    show Steps p.tables e below (s₁.setTop (mkF m 1 #[.val (.int q)] [(.int q)])) tgt
    refine XS.ifNo X0.here hx rfl (hb hby dd_jdk_43_method_4_1) rfl ((if0 _ _).trans (flt hq.1).1) ?_
    show Steps p.tables e below (s₁.setTop (mkF m 4 #[.val (.int q)] [])) tgt
    refine XS.iloadN X0.here hx rfl (hb hby dd_jdk_43_method_4_4) rfl ?_
    show Steps p.tables e below (s₁.setTop (mkF m 5 #[.val (.int q)] [(.int q)])) tgt
    refine XS.sipush X0.here hx rfl (hb hby dd_jdk_43_method_4_5) ?_
    show Steps p.tables e below (s₁.setTop (mkF m 8 #[.val (.int q)] [(.int (255 : Int32)), (.int q)])) tgt
    refine XS.icmpNo X0.here hx rfl (hb hby dd_jdk_43_method_4_8) rfl (flt hq.2).2.2.1 ?_
    show Steps p.tables e below (s₁.setTop (mkF m 11 #[.val (.int q)] [])) tgt
    refine XS.iconst X0.here hx rfl (hb hby dd_jdk_43_method_4_11) ?_
    show Steps p.tables e below (s₁.setTop (mkF m 12 #[.val (.int q)] [(.int (1 : Int32))])) tgt
    refine XS.goto X0.here hx rfl (pc0 := 12) (pc' := 16) rfl (hb hby dd_jdk_43_method_4_12) (by decide) (by decide) ?_
    exact kgo
  refine own_leave X0 hlk (v := some (.int (1 : Int32))) (fun h => by rw [Bd.returns] at h; cases h) (fun fs hr => retN X0 hx (t := .boolean) Bd.returns (by simp) (hb hby dd_jdk_43_method_4_16) (by rw [(by decide : nar .boolean (1 : Int32) = (1 : Int32))]; exact hr)) (by decide) (by decide) ?_
  show Q_cei Z q h0 n0 _ s₁.heap _
  rw [e0]
  exact ⟨rfl, N0, rfl⟩
theorem ef_len0 (m : MethodId) (x0 : Addr) : entryFrame m #[(.ref x0)] 1 = mkF m 0 #[.val (.ref x0)] [] := by first | (simp [entryFrame, mkF, argsToLocals, Value.category]; done) | rfl
def Q_len0 (Z : State) (a1 : Addr) (t : Addr) (k : ClassId) (h0 : Heap) (n0 : Nat) (v : Option Value) (h : Heap) (L : List Loc) : Prop := v = some (.int (0 : Int32)) ∧ Fr n0 L ∧ h = h0
theorem dd_jdk_42_method_54_0 : decode jdk_42_method_54_code 0 = .ok (.aload_n 0, 1) := by decide +kernel
theorem dd_jdk_42_method_54_1 : decode jdk_42_method_54_code 1 = .ok (.getfield 9, 3) := by decide +kernel
theorem dd_jdk_42_method_54_4 : decode jdk_42_method_54_code 4 = .ok (.arraylength, 1) := by decide +kernel
theorem dd_jdk_42_method_54_5 : decode jdk_42_method_54_code 5 = .ok (.aload_n 0, 1) := by decide +kernel
theorem dd_jdk_42_method_54_6 : decode jdk_42_method_54_code 6 = .ok (.invokevirtual 335, 3) := by decide +kernel
theorem pd_61459997 : parseMethodDescriptor "()B" = some ⟨[], some .byte⟩ := by decide +kernel
theorem dd_jdk_42_method_54_9 : decode jdk_42_method_54_code 9 = .ok (.ishr, 1) := by decide +kernel
theorem dd_jdk_42_method_54_10 : decode jdk_42_method_54_code 10 = .ok (.ireturn, 1) := by decide +kernel
set_option maxRecDepth 65536 in
set_option maxHeartbeats 40000000 in
theorem rm_len0 (l : Launch) (Z : State) (a0 : Array Value) (hw : ∀ d ∈ tables_1, d.before a0 Z = true) (ws : List Jvm.Cond) (wG1 : Int32) (wO2 : Sta Z Z.heap "java/lang/String" "COMPACT_STRINGS" "Z" (.int wG1)) (wP5 : ¬ (wG1 = (0 : Int32))) (wG3 : Value) (wO4 : Sta Z Z.heap "jdk/internal/util/Preconditions" "SIOOBE_FORMATTER" "Ljava/util/function/BiFunction;" wG3) (wrG3 : wG3.isRef = true) (hstr : ∀ a ∈ Bundle.stringAtoms, a.before a0 Z = true) (hEL : EW Z a0 consts_1) (h0 : Heap) (n0 : Nat) (X00 : Old Z n0 h0) (a1 : Addr) (t : Addr) (k : ClassId) (f0 : Exa Z h0 a1 "java/lang/String") (f1 : Fld Z h0 a1 "java/lang/String" "value" "[B" (.ref t)) (f2 : Fld Z h0 a1 "java/lang/String" "coder" "B" (.int (0 : Int32))) (f3 : Arv Z h0 t k .byte (0 : Int32) [] (.int (0 : Int32))) :
    MetFree l (⟨"java/lang/String", "length", "()I"⟩ : MethodName) (head1 (Jvm.Cond.code (⟨"java/lang/String", "length", "()I"⟩ : MethodName) jdk_42_method_54_code 1 (some .int) :: ws) ({ frames := 1, cells := 0, slots := 0, locals := 13 } : Room)) (fun a U => a = #[(.ref a1)] ∧ Z.Warmed39 U.vm ∧ U.heap = h0) (fun _ _ _ _ _ => True) (fun _ U o U' => ∃ v L, o = .returned v ∧ Q_len0 Z a1 t k h0 n0 v U'.heap L ∧ FrameEnd U o U' L ({ frames := 1, cells := 0, slots := 0, locals := 13 } : Room).cells ({ frames := 1, cells := 0, slots := 0, locals := 13 } : Room).slots) := by
  refine MetFree.of_bodySF (plainFor_of_name pn_52039224) hisR ?_
  intro p e s m args below meth c s₁ Bd hml0 hP hK
  obtain ⟨rfl, hZ, hh⟩ := hP
  have hx := Bd.exec
  have hby := Bd.bytes
  have hlk := Bd.notSynchronized
  have hml : c.maxLocals = 1 := hml0
  have hown : s.vm.findClass "java/lang/String" = some m.cls := findClass_of_methodNamed Bd.named
  have hnm := (name_of_methodNamed Bd.named Bd.method).1
  have X0 : Stand p l e ({ frames := 1, cells := 0, slots := 0, locals := 13 } : Room) s m #[(.ref a1)] below meth c s₁ [] 0 0 := Stand.of_body Bd
  have e0 : s₁.heap = h0 := by rw [← hh, Bd.state]; rfl
  have N0 := Fr.nil n0
  have Z0 : n0 ≤ h0.size := X00.1 ▸ X00.2.1
  have K0 : Keep h0 h0 ([] : List Addr) := Keep.refl _ _
  show OwnGoes p e below (fun o U' => ∃ v L, o = .returned v ∧ Q_len0 Z a1 t k h0 n0 v U'.heap L ∧ FrameEnd s o U' L ({ frames := 1, cells := 0, slots := 0, locals := 13 } : Room).cells ({ frames := 1, cells := 0, slots := 0, locals := 13 } : Room).slots) s₁ (entryFrame m #[(.ref a1)] 1)
  refine OwnGoes.step (T' := s₁) (g' := (mkF m 0 #[.val (.ref a1)] [])) (fun tgt kgo => castTop (ef_len0 m a1) kgo) ?_
  refine OwnGoes.step (T' := s₁) (g' := (mkF m 1 #[.val (.ref a1)] [(.ref a1)])) (fun tgt kgo => ?_) ?_
  · show Steps p.tables e below (s₁.setTop (mkF m 0 #[.val (.ref a1)] [])) tgt
    refine XS.aloadN X0.here hx rfl (hb hby dd_jdk_42_method_54_0) rfl rfl ?_
    exact kgo
  obtain ⟨T1, X1, e1, st1⟩ := getF X0 hx hZ hown (host := "") (Or.inl (hw _ (List.mem_of_getElem? (i := 32) rfl))) Via.refl e0 f1 (g := (mkF m 1 #[.val (.ref a1)] [(.ref a1)])) rfl rfl (hb hby dd_jdk_42_method_54_1)
  refine OwnGoes.step (T' := T1) (g' := (mkF m 4 #[.val (.ref a1)] [(.ref t)])) st1 ?_
  refine OwnGoes.step (T' := T1) (g' := (mkF m 6 #[.val (.ref a1)] [(.ref a1), (.int (0 : Int32))])) (fun tgt kgo => ?_) ?_
  · show Steps p.tables e below (T1.setTop (mkF m 4 #[.val (.ref a1)] [(.ref t)])) tgt
    obtain ⟨cl2, Ar2, q2, S2, M2, -, -⟩ := f3
    refine X1.arraylength hx (by rw [e1]; exact Ar2.1) (State.isArrayOf_alike hZ.alike Ar2.2.1) (g := (mkF m 4 #[.val (.ref a1)] [(.ref t)])) rfl rfl (hb hby dd_jdk_42_method_54_4) _ ?_
    rw [len_of S2 M2]
    show Steps p.tables e below (T1.setTop (mkF m 5 #[.val (.ref a1)] [(.int (0 : Int32))])) tgt
    refine XS.aloadN X1.here hx rfl (hb hby dd_jdk_42_method_54_5) rfl rfl ?_
    exact kgo
  obtain ⟨cq3, kq3, q3a, q3b, q3c⟩ := isOf (s := s) hZ e1 f0
  obtain ⟨_, _, ⟨T3, L3, k3, n3⟩, -, X3, ⟨Lc3, hQ3, l3, y3, z3⟩, st3⟩ := X1.virtualBack hx (y := (⟨"java/lang/String", "coder", "()B"⟩ : MethodName)) (z := (⟨"java/lang/String", "coder", "()B"⟩ : MethodName)) hown (mvT hZ (hw _ (List.mem_of_getElem? (i := 103) rfl))) (mvT hZ (hw _ (List.mem_of_getElem? (i := 104) rfl))) (notFace_of_selects (args := #[]) (mvT hZ (hw _ (List.mem_of_getElem? (i := 106) rfl)))) (mvT hZ (hw _ (List.mem_of_getElem? (i := 106) rfl))) (mvT hZ (hw _ (List.mem_of_getElem? (i := 105) rfl))) (by decide) (backOf (W := 1) (rm_cod l Z a0 hw [] wG1 wO2 wP5 wG3 wO4 wrG3 hstr hEL h0 n0 X00 a1 f2) hZ (hw _ (List.mem_of_getElem? (i := 107) rfl)) (hw _ (List.mem_of_getElem? (i := 6) rfl)) (by decide) (by decide)) q3a q3c (g := (mkF m 6 #[.val (.ref a1)] [(.ref a1), (.int (0 : Int32))])) rfl (by rw [hml]; rfl) (Steps.refl _) (argsL := []) (rest := [(.int (0 : Int32))]) (lenOf pd_61459997 rfl) rfl (by show 2 * 0 + _ ≤ _; exact Nat.le_of_eq rfl) (hb hby dd_jdk_42_method_54_6) (fun _ _ => ⟨rfl, e1, (by decide : 0 + 0 ≤ _), (by decide : 0 + 0 ≤ _)⟩)
  dsimp only [Pt.U, Pt.locs, Pt.cells, Pt.slots] at X3 l3 y3 z3 st3 hQ3
  subst l3 y3 z3
  obtain ⟨rfl, Nq3, eq3⟩ := hQ3
  refine OwnGoes.tr (T' := T3) (g' := (mkF m 9 #[.val (.ref a1)] [(.int (0 : Int32)), (.int (0 : Int32))])) st3 ?_
  have N3 := Fr.app N0 Nq3
  refine OwnGoes.step (T' := T3) (g' := (mkF m 10 #[.val (.ref a1)] [(.int (0 : Int32))])) (fun tgt kgo => ?_) ?_
  · show Steps p.tables e below (T3.setTop (mkF m 9 #[.val (.ref a1)] [(.int (0 : Int32)), (.int (0 : Int32))])) tgt
    refine XS.ishr X3.here hx rfl (hb hby dd_jdk_42_method_54_9) rfl ?_
    exact kgo
  refine own_leave X3 hlk (v := some (.int (0 : Int32))) (fun h => by rw [Bd.returns] at h; cases h) (fun fs hr => retI X3 hx Bd.returns (hb hby dd_jdk_42_method_54_10) hr) (by decide) (by decide) ?_
  show Q_len0 Z a1 t k h0 n0 _ T3.heap _
  rw [eq3]
  exact ⟨rfl, N3, rfl⟩
theorem ef_max0 (m : MethodId)  : entryFrame m #[(.int (0 : Int32)), (.int (0 : Int32))] 2 = mkF m 0 #[.val (.int (0 : Int32)), .val (.int (0 : Int32))] [] := by first | (simp [entryFrame, mkF, argsToLocals, Value.category]; done) | rfl
def Q_max0 (Z : State)  (h0 : Heap) (n0 : Nat) (v : Option Value) (h : Heap) (L : List Loc) : Prop := v = some (.int (0 : Int32)) ∧ Fr n0 L ∧ h = h0
theorem dd_jdk_29_method_65_0 : decode jdk_29_method_65_code 0 = .ok (.iload_n 0, 1) := by decide +kernel
theorem dd_jdk_29_method_65_1 : decode jdk_29_method_65_code 1 = .ok (.iload_n 1, 1) := by decide +kernel
theorem dd_jdk_29_method_65_2 : decode jdk_29_method_65_code 2 = .ok (.if_icmp .lt 7, 3) := by decide +kernel
theorem dd_jdk_29_method_65_5 : decode jdk_29_method_65_code 5 = .ok (.iload_n 0, 1) := by decide +kernel
theorem dd_jdk_29_method_65_6 : decode jdk_29_method_65_code 6 = .ok (.goto 4, 3) := by decide +kernel
theorem dd_jdk_29_method_65_10 : decode jdk_29_method_65_code 10 = .ok (.ireturn, 1) := by decide +kernel
set_option maxRecDepth 65536 in
set_option maxHeartbeats 40000000 in
theorem rm_max0 (l : Launch) (Z : State) (a0 : Array Value) (hw : ∀ d ∈ tables_1, d.before a0 Z = true) (ws : List Jvm.Cond) (wG1 : Int32) (wO2 : Sta Z Z.heap "java/lang/String" "COMPACT_STRINGS" "Z" (.int wG1)) (wP5 : ¬ (wG1 = (0 : Int32))) (wG3 : Value) (wO4 : Sta Z Z.heap "jdk/internal/util/Preconditions" "SIOOBE_FORMATTER" "Ljava/util/function/BiFunction;" wG3) (wrG3 : wG3.isRef = true) (hstr : ∀ a ∈ Bundle.stringAtoms, a.before a0 Z = true) (hEL : EW Z a0 consts_1) (h0 : Heap) (n0 : Nat) (X00 : Old Z n0 h0)  :
    MetFree l (⟨"java/lang/Math", "max", "(II)I"⟩ : MethodName) (head1 (Jvm.Cond.code (⟨"java/lang/Math", "max", "(II)I"⟩ : MethodName) jdk_29_method_65_code 2 (some .int) :: ws) ({ frames := 0, cells := 0, slots := 0, locals := 0 } : Room)) (fun a U => a = #[(.int (0 : Int32)), (.int (0 : Int32))] ∧ Z.Warmed39 U.vm ∧ U.heap = h0) (fun _ _ _ _ _ => True) (fun _ U o U' => ∃ v L, o = .returned v ∧ Q_max0 Z  h0 n0 v U'.heap L ∧ FrameEnd U o U' L ({ frames := 0, cells := 0, slots := 0, locals := 0 } : Room).cells ({ frames := 0, cells := 0, slots := 0, locals := 0 } : Room).slots) := by
  refine MetFree.of_bodySF (Jvm.Free.JP.mathPlain rfl (by decide +kernel)) hisR ?_
  intro p e s m args below meth c s₁ Bd hml0 hP hK
  obtain ⟨rfl, hZ, hh⟩ := hP
  have hx := Bd.exec
  have hby := Bd.bytes
  have hlk := Bd.notSynchronized
  have hml : c.maxLocals = 2 := hml0
  have hown : s.vm.findClass "java/lang/Math" = some m.cls := findClass_of_methodNamed Bd.named
  have hnm := (name_of_methodNamed Bd.named Bd.method).1
  have X0 : Stand p l e ({ frames := 0, cells := 0, slots := 0, locals := 0 } : Room) s m #[(.int (0 : Int32)), (.int (0 : Int32))] below meth c s₁ [] 0 0 := Stand.of_body Bd
  have e0 : s₁.heap = h0 := by rw [← hh, Bd.state]; rfl
  have N0 := Fr.nil n0
  have Z0 : n0 ≤ h0.size := X00.1 ▸ X00.2.1
  have K0 : Keep h0 h0 ([] : List Addr) := Keep.refl _ _
  show OwnGoes p e below (fun o U' => ∃ v L, o = .returned v ∧ Q_max0 Z  h0 n0 v U'.heap L ∧ FrameEnd s o U' L ({ frames := 0, cells := 0, slots := 0, locals := 0 } : Room).cells ({ frames := 0, cells := 0, slots := 0, locals := 0 } : Room).slots) s₁ (entryFrame m #[(.int (0 : Int32)), (.int (0 : Int32))] 2)
  refine OwnGoes.step (T' := s₁) (g' := (mkF m 0 #[.val (.int (0 : Int32)), .val (.int (0 : Int32))] [])) (fun tgt kgo => castTop (ef_max0 m ) kgo) ?_
  refine OwnGoes.step (T' := s₁) (g' := (mkF m 10 #[.val (.int (0 : Int32)), .val (.int (0 : Int32))] [(.int (0 : Int32))])) (fun tgt kgo => ?_) ?_
  · show Steps p.tables e below (s₁.setTop (mkF m 0 #[.val (.int (0 : Int32)), .val (.int (0 : Int32))] [])) tgt
    refine XS.iloadN X0.here hx rfl (hb hby dd_jdk_29_method_65_0) rfl ?_
    show Steps p.tables e below (s₁.setTop (mkF m 1 #[.val (.int (0 : Int32)), .val (.int (0 : Int32))] [(.int (0 : Int32))])) tgt
    refine XS.iloadN X0.here hx rfl (hb hby dd_jdk_29_method_65_1) rfl ?_
    show Steps p.tables e below (s₁.setTop (mkF m 2 #[.val (.int (0 : Int32)), .val (.int (0 : Int32))] [(.int (0 : Int32)), (.int (0 : Int32))])) tgt
    refine XS.icmpNo X0.here hx rfl (hb hby dd_jdk_29_method_65_2) rfl (flt (by decide : ¬ ((0 : Int32) < (0 : Int32)))).1 ?_
    show Steps p.tables e below (s₁.setTop (mkF m 5 #[.val (.int (0 : Int32)), .val (.int (0 : Int32))] [])) tgt
    refine XS.iloadN X0.here hx rfl (hb hby dd_jdk_29_method_65_5) rfl ?_
    show Steps p.tables e below (s₁.setTop (mkF m 6 #[.val (.int (0 : Int32)), .val (.int (0 : Int32))] [(.int (0 : Int32))])) tgt
    refine XS.goto X0.here hx rfl (pc0 := 6) (pc' := 10) rfl (hb hby dd_jdk_29_method_65_6) (by decide) (by decide) ?_
    exact kgo
  refine own_leave X0 hlk (v := some (.int (0 : Int32))) (fun h => by rw [Bd.returns] at h; cases h) (fun fs hr => retI X0 hx Bd.returns (hb hby dd_jdk_29_method_65_10) hr) (by decide) (by decide) ?_
  show Q_max0 Z  h0 n0 _ s₁.heap _
  rw [e0]
  exact ⟨rfl, N0, rfl⟩
theorem ef_min0 (m : MethodId)  : entryFrame m #[(.int (0 : Int32)), (.int (0 : Int32))] 2 = mkF m 0 #[.val (.int (0 : Int32)), .val (.int (0 : Int32))] [] := by first | (simp [entryFrame, mkF, argsToLocals, Value.category]; done) | rfl
def Q_min0 (Z : State)  (h0 : Heap) (n0 : Nat) (v : Option Value) (h : Heap) (L : List Loc) : Prop := v = some (.int (0 : Int32)) ∧ Fr n0 L ∧ h = h0
theorem dd_jdk_29_method_69_0 : decode jdk_29_method_69_code 0 = .ok (.iload_n 0, 1) := by decide +kernel
theorem dd_jdk_29_method_69_1 : decode jdk_29_method_69_code 1 = .ok (.iload_n 1, 1) := by decide +kernel
theorem dd_jdk_29_method_69_2 : decode jdk_29_method_69_code 2 = .ok (.if_icmp .gt 7, 3) := by decide +kernel
theorem dd_jdk_29_method_69_5 : decode jdk_29_method_69_code 5 = .ok (.iload_n 0, 1) := by decide +kernel
theorem dd_jdk_29_method_69_6 : decode jdk_29_method_69_code 6 = .ok (.goto 4, 3) := by decide +kernel
theorem dd_jdk_29_method_69_10 : decode jdk_29_method_69_code 10 = .ok (.ireturn, 1) := by decide +kernel
set_option maxRecDepth 65536 in
set_option maxHeartbeats 40000000 in
theorem rm_min0 (l : Launch) (Z : State) (a0 : Array Value) (hw : ∀ d ∈ tables_1, d.before a0 Z = true) (ws : List Jvm.Cond) (wG1 : Int32) (wO2 : Sta Z Z.heap "java/lang/String" "COMPACT_STRINGS" "Z" (.int wG1)) (wP5 : ¬ (wG1 = (0 : Int32))) (wG3 : Value) (wO4 : Sta Z Z.heap "jdk/internal/util/Preconditions" "SIOOBE_FORMATTER" "Ljava/util/function/BiFunction;" wG3) (wrG3 : wG3.isRef = true) (hstr : ∀ a ∈ Bundle.stringAtoms, a.before a0 Z = true) (hEL : EW Z a0 consts_1) (h0 : Heap) (n0 : Nat) (X00 : Old Z n0 h0)  :
    MetFree l (⟨"java/lang/Math", "min", "(II)I"⟩ : MethodName) (head1 (Jvm.Cond.code (⟨"java/lang/Math", "min", "(II)I"⟩ : MethodName) jdk_29_method_69_code 2 (some .int) :: ws) ({ frames := 0, cells := 0, slots := 0, locals := 0 } : Room)) (fun a U => a = #[(.int (0 : Int32)), (.int (0 : Int32))] ∧ Z.Warmed39 U.vm ∧ U.heap = h0) (fun _ _ _ _ _ => True) (fun _ U o U' => ∃ v L, o = .returned v ∧ Q_min0 Z  h0 n0 v U'.heap L ∧ FrameEnd U o U' L ({ frames := 0, cells := 0, slots := 0, locals := 0 } : Room).cells ({ frames := 0, cells := 0, slots := 0, locals := 0 } : Room).slots) := by
  refine MetFree.of_bodySF (Jvm.Free.JP.mathPlain rfl (by decide +kernel)) hisR ?_
  intro p e s m args below meth c s₁ Bd hml0 hP hK
  obtain ⟨rfl, hZ, hh⟩ := hP
  have hx := Bd.exec
  have hby := Bd.bytes
  have hlk := Bd.notSynchronized
  have hml : c.maxLocals = 2 := hml0
  have hown : s.vm.findClass "java/lang/Math" = some m.cls := findClass_of_methodNamed Bd.named
  have hnm := (name_of_methodNamed Bd.named Bd.method).1
  have X0 : Stand p l e ({ frames := 0, cells := 0, slots := 0, locals := 0 } : Room) s m #[(.int (0 : Int32)), (.int (0 : Int32))] below meth c s₁ [] 0 0 := Stand.of_body Bd
  have e0 : s₁.heap = h0 := by rw [← hh, Bd.state]; rfl
  have N0 := Fr.nil n0
  have Z0 : n0 ≤ h0.size := X00.1 ▸ X00.2.1
  have K0 : Keep h0 h0 ([] : List Addr) := Keep.refl _ _
  show OwnGoes p e below (fun o U' => ∃ v L, o = .returned v ∧ Q_min0 Z  h0 n0 v U'.heap L ∧ FrameEnd s o U' L ({ frames := 0, cells := 0, slots := 0, locals := 0 } : Room).cells ({ frames := 0, cells := 0, slots := 0, locals := 0 } : Room).slots) s₁ (entryFrame m #[(.int (0 : Int32)), (.int (0 : Int32))] 2)
  refine OwnGoes.step (T' := s₁) (g' := (mkF m 0 #[.val (.int (0 : Int32)), .val (.int (0 : Int32))] [])) (fun tgt kgo => castTop (ef_min0 m ) kgo) ?_
  refine OwnGoes.step (T' := s₁) (g' := (mkF m 10 #[.val (.int (0 : Int32)), .val (.int (0 : Int32))] [(.int (0 : Int32))])) (fun tgt kgo => ?_) ?_
  · show Steps p.tables e below (s₁.setTop (mkF m 0 #[.val (.int (0 : Int32)), .val (.int (0 : Int32))] [])) tgt
    refine XS.iloadN X0.here hx rfl (hb hby dd_jdk_29_method_69_0) rfl ?_
    show Steps p.tables e below (s₁.setTop (mkF m 1 #[.val (.int (0 : Int32)), .val (.int (0 : Int32))] [(.int (0 : Int32))])) tgt
    refine XS.iloadN X0.here hx rfl (hb hby dd_jdk_29_method_69_1) rfl ?_
    show Steps p.tables e below (s₁.setTop (mkF m 2 #[.val (.int (0 : Int32)), .val (.int (0 : Int32))] [(.int (0 : Int32)), (.int (0 : Int32))])) tgt
    refine XS.icmpNo X0.here hx rfl (hb hby dd_jdk_29_method_69_2) rfl (flt (by decide : ¬ ((0 : Int32) < (0 : Int32)))).2.2.1 ?_
    show Steps p.tables e below (s₁.setTop (mkF m 5 #[.val (.int (0 : Int32)), .val (.int (0 : Int32))] [])) tgt
    refine XS.iloadN X0.here hx rfl (hb hby dd_jdk_29_method_69_5) rfl ?_
    show Steps p.tables e below (s₁.setTop (mkF m 6 #[.val (.int (0 : Int32)), .val (.int (0 : Int32))] [(.int (0 : Int32))])) tgt
    refine XS.goto X0.here hx rfl (pc0 := 6) (pc' := 10) rfl (hb hby dd_jdk_29_method_69_6) (by decide) (by decide) ?_
    exact kgo
  refine own_leave X0 hlk (v := some (.int (0 : Int32))) (fun h => by rw [Bd.returns] at h; cases h) (fun fs hr => retI X0 hx Bd.returns (hb hby dd_jdk_29_method_69_10) hr) (by decide) (by decide) ?_
  show Q_min0 Z  h0 n0 _ s₁.heap _
  rw [e0]
  exact ⟨rfl, N0, rfl⟩
theorem ef_iol0 (m : MethodId) (x0 : Addr) (x1 : Int32) : entryFrame m #[(.ref x0), (.int x1), (.int (0 : Int32)), (.int (0 : Int32))] 4 = mkF m 0 #[.val (.ref x0), .val (.int x1), .val (.int (0 : Int32)), .val (.int (0 : Int32))] [] := by first | (simp [entryFrame, mkF, argsToLocals, Value.category]; done) | rfl
def Q_iol0 (Z : State) (t : Addr) (k : ClassId) (q : Int32) (h0 : Heap) (n0 : Nat) (v : Option Value) (h : Heap) (L : List Loc) : Prop := ∃ (r : Int32), v = some (.int r) ∧ Fr n0 L ∧ h = h0 ∧ (((False) ∧ ¬ r < 0) ∨ (¬ (False) ∧ r < 0))
theorem dd_jdk_43_method_22_0 : decode jdk_43_method_22_code 0 = .ok (.iload_n 1, 1) := by decide +kernel
theorem dd_jdk_43_method_22_1 : decode jdk_43_method_22_code 1 = .ok (.invokestatic 88, 3) := by decide +kernel
theorem pd_1097859 : parseMethodDescriptor "(I)Z" = some ⟨[.int], some .boolean⟩ := by decide +kernel
theorem dd_jdk_43_method_22_4 : decode jdk_43_method_22_code 4 = .ok (.ifCond .ne 5, 3) := by decide +kernel
theorem dd_jdk_43_method_22_9 : decode jdk_43_method_22_code 9 = .ok (.iload_n 2, 1) := by decide +kernel
theorem dd_jdk_43_method_22_10 : decode jdk_43_method_22_code 10 = .ok (.iconst 0, 1) := by decide +kernel
theorem dd_jdk_43_method_22_11 : decode jdk_43_method_22_code 11 = .ok (.invokestatic 92, 3) := by decide +kernel
theorem pd_50523903 : parseMethodDescriptor "(II)I" = some ⟨[.int, .int], some .int⟩ := by decide +kernel
theorem dd_jdk_43_method_22_14 : decode jdk_43_method_22_code 14 = .ok (.istore_n 2, 1) := by decide +kernel
theorem dd_jdk_43_method_22_15 : decode jdk_43_method_22_code 15 = .ok (.iload_n 3, 1) := by decide +kernel
theorem dd_jdk_43_method_22_16 : decode jdk_43_method_22_code 16 = .ok (.aload_n 0, 1) := by decide +kernel
theorem dd_jdk_43_method_22_17 : decode jdk_43_method_22_code 17 = .ok (.arraylength, 1) := by decide +kernel
theorem dd_jdk_43_method_22_18 : decode jdk_43_method_22_code 18 = .ok (.invokestatic 38, 3) := by decide +kernel
theorem dd_jdk_43_method_22_21 : decode jdk_43_method_22_code 21 = .ok (.istore_n 3, 1) := by decide +kernel
theorem dd_jdk_43_method_22_22 : decode jdk_43_method_22_code 22 = .ok (.iload_n 2, 1) := by decide +kernel
theorem dd_jdk_43_method_22_23 : decode jdk_43_method_22_code 23 = .ok (.iload_n 3, 1) := by decide +kernel
theorem dd_jdk_43_method_22_24 : decode jdk_43_method_22_code 24 = .ok (.if_icmp .lt 5, 3) := by decide +kernel
theorem dd_jdk_43_method_22_27 : decode jdk_43_method_22_code 27 = .ok (.iconst (-1), 1) := by decide +kernel
theorem dd_jdk_43_method_22_28 : decode jdk_43_method_22_code 28 = .ok (.ireturn, 1) := by decide +kernel
set_option maxRecDepth 65536 in
set_option maxHeartbeats 40000000 in
theorem rm_iol0 (l : Launch) (Z : State) (a0 : Array Value) (hw : ∀ d ∈ tables_1, d.before a0 Z = true) (ws : List Jvm.Cond) (wG1 : Int32) (wO2 : Sta Z Z.heap "java/lang/String" "COMPACT_STRINGS" "Z" (.int wG1)) (wP5 : ¬ (wG1 = (0 : Int32))) (wG3 : Value) (wO4 : Sta Z Z.heap "jdk/internal/util/Preconditions" "SIOOBE_FORMATTER" "Ljava/util/function/BiFunction;" wG3) (wrG3 : wG3.isRef = true) (hstr : ∀ a ∈ Bundle.stringAtoms, a.before a0 Z = true) (hEL : EW Z a0 consts_1) (h0 : Heap) (n0 : Nat) (X00 : Old Z n0 h0) (t : Addr) (k : ClassId) (q : Int32) (f0 : Arv Z h0 t k .byte (0 : Int32) [] (.int (0 : Int32))) (hq : ¬ q < 0 ∧ ¬ (255 : Int32) < q) :
    MetFree l (⟨"java/lang/StringLatin1", "indexOf", "([BIII)I"⟩ : MethodName) (head1 (Jvm.Cond.code (⟨"java/lang/StringLatin1", "indexOf", "([BIII)I"⟩ : MethodName) jdk_43_method_22_code 4 (some .int) :: ws) ({ frames := 1, cells := 0, slots := 0, locals := 13 } : Room)) (fun a U => a = #[(.ref t), (.int q), (.int (0 : Int32)), (.int (0 : Int32))] ∧ Z.Warmed39 U.vm ∧ U.heap = h0) (fun _ _ _ _ _ => True) (fun _ U o U' => ∃ v L, o = .returned v ∧ Q_iol0 Z t k q h0 n0 v U'.heap L ∧ FrameEnd U o U' L ({ frames := 1, cells := 0, slots := 0, locals := 13 } : Room).cells ({ frames := 1, cells := 0, slots := 0, locals := 13 } : Room).slots) := by
  refine MetFree.of_bodySF (plainFor_of_name pn_54843740) hisR ?_
  intro p e s m args below meth c s₁ Bd hml0 hP hK
  obtain ⟨rfl, hZ, hh⟩ := hP
  have hx := Bd.exec
  have hby := Bd.bytes
  have hlk := Bd.notSynchronized
  have hml : c.maxLocals = 4 := hml0
  have hown : s.vm.findClass "java/lang/StringLatin1" = some m.cls := findClass_of_methodNamed Bd.named
  have hnm := (name_of_methodNamed Bd.named Bd.method).1
  have X0 : Stand p l e ({ frames := 1, cells := 0, slots := 0, locals := 13 } : Room) s m #[(.ref t), (.int q), (.int (0 : Int32)), (.int (0 : Int32))] below meth c s₁ [] 0 0 := Stand.of_body Bd
  have e0 : s₁.heap = h0 := by rw [← hh, Bd.state]; rfl
  have N0 := Fr.nil n0
  have Z0 : n0 ≤ h0.size := X00.1 ▸ X00.2.1
  have K0 : Keep h0 h0 ([] : List Addr) := Keep.refl _ _
  show OwnGoes p e below (fun o U' => ∃ v L, o = .returned v ∧ Q_iol0 Z t k q h0 n0 v U'.heap L ∧ FrameEnd s o U' L ({ frames := 1, cells := 0, slots := 0, locals := 13 } : Room).cells ({ frames := 1, cells := 0, slots := 0, locals := 13 } : Room).slots) s₁ (entryFrame m #[(.ref t), (.int q), (.int (0 : Int32)), (.int (0 : Int32))] 4)
  refine OwnGoes.step (T' := s₁) (g' := (mkF m 0 #[.val (.ref t), .val (.int q), .val (.int (0 : Int32)), .val (.int (0 : Int32))] [])) (fun tgt kgo => castTop (ef_iol0 m t q) kgo) ?_
  refine OwnGoes.step (T' := s₁) (g' := (mkF m 1 #[.val (.ref t), .val (.int q), .val (.int (0 : Int32)), .val (.int (0 : Int32))] [(.int q)])) (fun tgt kgo => ?_) ?_
  · show Steps p.tables e below (s₁.setTop (mkF m 0 #[.val (.ref t), .val (.int q), .val (.int (0 : Int32)), .val (.int (0 : Int32))] [])) tgt
    refine XS.iloadN X0.here hx rfl (hb hby dd_jdk_43_method_22_0) rfl ?_
    exact kgo
  obtain ⟨_, _, ⟨T1, L1, k1, n1⟩, -, X1, ⟨Lc1, hQ1, l1, y1, z1⟩, st1⟩ := Jvm.LawKit.callS X0 hx (y := (⟨"java/lang/StringLatin1", "canEncode", "(I)Z"⟩ : MethodName)) hown (mvT hZ (hw _ (List.mem_of_getElem? (i := 111) rfl))) (mvT hZ (hw _ (List.mem_of_getElem? (i := 112) rfl))) (mvT hZ (hw _ (List.mem_of_getElem? (i := 39) rfl))) (mvT hZ (hw _ (List.mem_of_getElem? (i := 113) rfl))) (by decide) (backOf (W := 0) (rm_cei l Z a0 hw [] wG1 wO2 wP5 wG3 wO4 wrG3 hstr hEL h0 n0 X00 q hq) hZ (hw _ (List.mem_of_getElem? (i := 113) rfl)) (hw _ (List.mem_of_getElem? (i := 39) rfl)) (by decide) (by decide)) (g := (mkF m 1 #[.val (.ref t), .val (.int q), .val (.int (0 : Int32)), .val (.int (0 : Int32))] [(.int q)])) rfl (by rw [hml]; rfl) (argsL := [(.int q)]) (rest := []) (lenOf pd_1097859 rfl) rfl (by show 2 * 0 + _ ≤ _; exact Nat.le_of_eq rfl) (hb hby dd_jdk_43_method_22_1) (fun _ _ => ⟨rfl, e0, (by decide : 0 + 0 ≤ _), (by decide : 0 + 0 ≤ _)⟩)
  dsimp only [Pt.U, Pt.locs, Pt.cells, Pt.slots] at X1 l1 y1 z1 st1 hQ1
  subst l1 y1 z1
  obtain ⟨rfl, Nq1, eq1⟩ := hQ1
  refine OwnGoes.step (T' := T1) (g' := (mkF m 4 #[.val (.ref t), .val (.int q), .val (.int (0 : Int32)), .val (.int (0 : Int32))] [(.int (1 : Int32))])) st1 ?_
  have N1 := Fr.app N0 Nq1
  refine OwnGoes.step (T' := T1) (g' := (mkF m 11 #[.val (.ref t), .val (.int q), .val (.int (0 : Int32)), .val (.int (0 : Int32))] [(.int (0 : Int32)), (.int (0 : Int32))])) (fun tgt kgo => ?_) ?_
  · show Steps p.tables e below (T1.setTop (mkF m 4 #[.val (.ref t), .val (.int q), .val (.int (0 : Int32)), .val (.int (0 : Int32))] [(.int (1 : Int32))])) tgt
    refine XS.ifYes X1.here hx rfl (pc0 := 4) (pc' := 9) rfl (hb hby dd_jdk_43_method_22_4) rfl ((if0 _ _).trans (feq (by decide : ¬ ((1 : Int32) = (0 : Int32)))).2) (by decide) (by decide) ?_
    show Steps p.tables e below (T1.setTop (mkF m 9 #[.val (.ref t), .val (.int q), .val (.int (0 : Int32)), .val (.int (0 : Int32))] [])) tgt
    refine XS.iloadN X1.here hx rfl (hb hby dd_jdk_43_method_22_9) rfl ?_
    show Steps p.tables e below (T1.setTop (mkF m 10 #[.val (.ref t), .val (.int q), .val (.int (0 : Int32)), .val (.int (0 : Int32))] [(.int (0 : Int32))])) tgt
    refine XS.iconst X1.here hx rfl (hb hby dd_jdk_43_method_22_10) ?_
    exact kgo
  obtain ⟨_, _, ⟨T2, L2, k2, n2⟩, -, X2, ⟨Lc2, hQ2, l2, y2, z2⟩, st2⟩ := Jvm.LawKit.callS X1 hx (y := (⟨"java/lang/Math", "max", "(II)I"⟩ : MethodName)) hown (mvT hZ (hw _ (List.mem_of_getElem? (i := 114) rfl))) (mvT hZ (hw _ (List.mem_of_getElem? (i := 115) rfl))) (mvT hZ (hw _ (List.mem_of_getElem? (i := 116) rfl))) (mvT hZ (hw _ (List.mem_of_getElem? (i := 117) rfl))) (by decide) (backOf (W := 0) (rm_max0 l Z a0 hw [] wG1 wO2 wP5 wG3 wO4 wrG3 hstr hEL h0 n0 X00 ) hZ (hw _ (List.mem_of_getElem? (i := 117) rfl)) (hw _ (List.mem_of_getElem? (i := 116) rfl)) (by decide) (by decide)) (g := (mkF m 11 #[.val (.ref t), .val (.int q), .val (.int (0 : Int32)), .val (.int (0 : Int32))] [(.int (0 : Int32)), (.int (0 : Int32))])) rfl (by rw [hml]; rfl) (argsL := [(.int (0 : Int32)), (.int (0 : Int32))]) (rest := []) (lenOf pd_50523903 rfl) rfl (by show 2 * 0 + _ ≤ _; exact Nat.le_of_eq rfl) (hb hby dd_jdk_43_method_22_11) (fun _ _ => ⟨rfl, eq1, (by decide : 0 + 0 ≤ _), (by decide : 0 + 0 ≤ _)⟩)
  dsimp only [Pt.U, Pt.locs, Pt.cells, Pt.slots] at X2 l2 y2 z2 st2 hQ2
  subst l2 y2 z2
  obtain ⟨rfl, Nq2, eq2⟩ := hQ2
  refine OwnGoes.step (T' := T2) (g' := (mkF m 14 #[.val (.ref t), .val (.int q), .val (.int (0 : Int32)), .val (.int (0 : Int32))] [(.int (0 : Int32))])) st2 ?_
  have N2 := Fr.app N1 Nq2
  refine OwnGoes.step (T' := T2) (g' := (mkF m 18 #[.val (.ref t), .val (.int q), .val (.int (0 : Int32)), .val (.int (0 : Int32))] [(.int (0 : Int32)), (.int (0 : Int32))])) (fun tgt kgo => ?_) ?_
  · show Steps p.tables e below (T2.setTop (mkF m 14 #[.val (.ref t), .val (.int q), .val (.int (0 : Int32)), .val (.int (0 : Int32))] [(.int (0 : Int32))])) tgt
    refine XS.istoreN X2.here hx rfl (hb hby dd_jdk_43_method_22_14) rfl (l' := #[.val (.ref t), .val (.int q), .val (.int (0 : Int32)), .val (.int (0 : Int32))]) rfl ?_
    show Steps p.tables e below (T2.setTop (mkF m 15 #[.val (.ref t), .val (.int q), .val (.int (0 : Int32)), .val (.int (0 : Int32))] [])) tgt
    refine XS.iloadN X2.here hx rfl (hb hby dd_jdk_43_method_22_15) rfl ?_
    show Steps p.tables e below (T2.setTop (mkF m 16 #[.val (.ref t), .val (.int q), .val (.int (0 : Int32)), .val (.int (0 : Int32))] [(.int (0 : Int32))])) tgt
    refine XS.aloadN X2.here hx rfl (hb hby dd_jdk_43_method_22_16) rfl rfl ?_
    show Steps p.tables e below (T2.setTop (mkF m 17 #[.val (.ref t), .val (.int q), .val (.int (0 : Int32)), .val (.int (0 : Int32))] [(.ref t), (.int (0 : Int32))])) tgt
    obtain ⟨cl3, Ar3, q3, S3, M3, -, -⟩ := f0
    refine X2.arraylength hx (by rw [eq2]; exact Ar3.1) (State.isArrayOf_alike hZ.alike Ar3.2.1) (g := (mkF m 17 #[.val (.ref t), .val (.int q), .val (.int (0 : Int32)), .val (.int (0 : Int32))] [(.ref t), (.int (0 : Int32))])) rfl rfl (hb hby dd_jdk_43_method_22_17) _ ?_
    rw [len_of S3 M3]
    exact kgo
  obtain ⟨_, _, ⟨T4, L4, k4, n4⟩, -, X4, ⟨Lc4, hQ4, l4, y4, z4⟩, st4⟩ := Jvm.LawKit.callS X2 hx (y := (⟨"java/lang/Math", "min", "(II)I"⟩ : MethodName)) hown (mvT hZ (hw _ (List.mem_of_getElem? (i := 118) rfl))) (mvT hZ (hw _ (List.mem_of_getElem? (i := 119) rfl))) (mvT hZ (hw _ (List.mem_of_getElem? (i := 116) rfl))) (mvT hZ (hw _ (List.mem_of_getElem? (i := 120) rfl))) (by decide) (backOf (W := 0) (rm_min0 l Z a0 hw [] wG1 wO2 wP5 wG3 wO4 wrG3 hstr hEL h0 n0 X00 ) hZ (hw _ (List.mem_of_getElem? (i := 120) rfl)) (hw _ (List.mem_of_getElem? (i := 116) rfl)) (by decide) (by decide)) (g := (mkF m 18 #[.val (.ref t), .val (.int q), .val (.int (0 : Int32)), .val (.int (0 : Int32))] [(.int (0 : Int32)), (.int (0 : Int32))])) rfl (by rw [hml]; rfl) (argsL := [(.int (0 : Int32)), (.int (0 : Int32))]) (rest := []) (lenOf pd_50523903 rfl) rfl (by show 2 * 0 + _ ≤ _; exact Nat.le_of_eq rfl) (hb hby dd_jdk_43_method_22_18) (fun _ _ => ⟨rfl, eq2, (by decide : 0 + 0 ≤ _), (by decide : 0 + 0 ≤ _)⟩)
  dsimp only [Pt.U, Pt.locs, Pt.cells, Pt.slots] at X4 l4 y4 z4 st4 hQ4
  subst l4 y4 z4
  obtain ⟨rfl, Nq4, eq4⟩ := hQ4
  refine OwnGoes.step (T' := T4) (g' := (mkF m 21 #[.val (.ref t), .val (.int q), .val (.int (0 : Int32)), .val (.int (0 : Int32))] [(.int (0 : Int32))])) st4 ?_
  have N4 := Fr.app N2 Nq4
  refine OwnGoes.step (T' := T4) (g' := (mkF m 28 #[.val (.ref t), .val (.int q), .val (.int (0 : Int32)), .val (.int (0 : Int32))] [(.int (-1 : Int32))])) (fun tgt kgo => ?_) ?_
  · show Steps p.tables e below (T4.setTop (mkF m 21 #[.val (.ref t), .val (.int q), .val (.int (0 : Int32)), .val (.int (0 : Int32))] [(.int (0 : Int32))])) tgt
    refine XS.istoreN X4.here hx rfl (hb hby dd_jdk_43_method_22_21) rfl (l' := #[.val (.ref t), .val (.int q), .val (.int (0 : Int32)), .val (.int (0 : Int32))]) rfl ?_
    show Steps p.tables e below (T4.setTop (mkF m 22 #[.val (.ref t), .val (.int q), .val (.int (0 : Int32)), .val (.int (0 : Int32))] [])) tgt
    refine XS.iloadN X4.here hx rfl (hb hby dd_jdk_43_method_22_22) rfl ?_
    show Steps p.tables e below (T4.setTop (mkF m 23 #[.val (.ref t), .val (.int q), .val (.int (0 : Int32)), .val (.int (0 : Int32))] [(.int (0 : Int32))])) tgt
    refine XS.iloadN X4.here hx rfl (hb hby dd_jdk_43_method_22_23) rfl ?_
    show Steps p.tables e below (T4.setTop (mkF m 24 #[.val (.ref t), .val (.int q), .val (.int (0 : Int32)), .val (.int (0 : Int32))] [(.int (0 : Int32)), (.int (0 : Int32))])) tgt
    refine XS.icmpNo X4.here hx rfl (hb hby dd_jdk_43_method_22_24) rfl (flt (by decide : ¬ ((0 : Int32) < (0 : Int32)))).1 ?_
    show Steps p.tables e below (T4.setTop (mkF m 27 #[.val (.ref t), .val (.int q), .val (.int (0 : Int32)), .val (.int (0 : Int32))] [])) tgt
    refine XS.iconst X4.here hx rfl (hb hby dd_jdk_43_method_22_27) ?_
    exact kgo
  refine own_leave X4 hlk (v := some (.int (-1 : Int32))) (fun h => by rw [Bd.returns] at h; cases h) (fun fs hr => retI X4 hx Bd.returns (hb hby dd_jdk_43_method_22_28) hr) (by decide) (by decide) ?_
  show Q_iol0 Z t k q h0 n0 _ T4.heap _
  rw [eq4]
  exact ⟨(-1 : Int32), rfl, N4, rfl, (Or.inr ⟨fun z => z, by decide⟩)⟩
theorem ef_io2_0 (m : MethodId) (x0 : Addr) (x1 : Int32) : entryFrame m #[(.ref x0), (.int x1), (.int (0 : Int32))] 3 = mkF m 0 #[.val (.ref x0), .val (.int x1), .val (.int (0 : Int32))] [] := by first | (simp [entryFrame, mkF, argsToLocals, Value.category]; done) | rfl
def Q_io2_0 (Z : State) (a1 : Addr) (t : Addr) (k : ClassId) (q : Int32) (h0 : Heap) (n0 : Nat) (v : Option Value) (h : Heap) (L : List Loc) : Prop := ∃ (r : Int32), v = some (.int r) ∧ Fr n0 L ∧ h = h0 ∧ (((False) ∧ ¬ r < 0) ∨ (¬ (False) ∧ r < 0))
theorem dd_jdk_42_method_80_0 : decode jdk_42_method_80_code 0 = .ok (.aload_n 0, 1) := by decide +kernel
theorem dd_jdk_42_method_80_1 : decode jdk_42_method_80_code 1 = .ok (.invokevirtual 492, 3) := by decide +kernel
theorem pd_15861835 : parseMethodDescriptor "()Z" = some ⟨[], some .boolean⟩ := by decide +kernel
theorem dd_jdk_42_method_80_4 : decode jdk_42_method_80_code 4 = .ok (.ifCond .eq 19, 3) := by decide +kernel
theorem dd_jdk_42_method_80_7 : decode jdk_42_method_80_code 7 = .ok (.aload_n 0, 1) := by decide +kernel
theorem dd_jdk_42_method_80_8 : decode jdk_42_method_80_code 8 = .ok (.getfield 9, 3) := by decide +kernel
theorem dd_jdk_42_method_80_11 : decode jdk_42_method_80_code 11 = .ok (.iload_n 1, 1) := by decide +kernel
theorem dd_jdk_42_method_80_12 : decode jdk_42_method_80_code 12 = .ok (.iload_n 2, 1) := by decide +kernel
theorem dd_jdk_42_method_80_13 : decode jdk_42_method_80_code 13 = .ok (.aload_n 0, 1) := by decide +kernel
theorem dd_jdk_42_method_80_14 : decode jdk_42_method_80_code 14 = .ok (.invokevirtual 505, 3) := by decide +kernel
theorem pd_86913941 : parseMethodDescriptor "()I" = some ⟨[], some .int⟩ := by decide +kernel
theorem dd_jdk_42_method_80_17 : decode jdk_42_method_80_code 17 = .ok (.invokestatic 637, 3) := by decide +kernel
theorem pd_68989375 : parseMethodDescriptor "([BIII)I" = some ⟨[(.array .byte), .int, .int, .int], some .int⟩ := by decide +kernel
theorem dd_jdk_42_method_80_20 : decode jdk_42_method_80_code 20 = .ok (.goto 16, 3) := by decide +kernel
theorem dd_jdk_42_method_80_36 : decode jdk_42_method_80_code 36 = .ok (.ireturn, 1) := by decide +kernel
set_option maxRecDepth 65536 in
set_option maxHeartbeats 40000000 in
theorem rm_io2_0 (l : Launch) (Z : State) (a0 : Array Value) (hw : ∀ d ∈ tables_1, d.before a0 Z = true) (ws : List Jvm.Cond) (wG1 : Int32) (wO2 : Sta Z Z.heap "java/lang/String" "COMPACT_STRINGS" "Z" (.int wG1)) (wP5 : ¬ (wG1 = (0 : Int32))) (wG3 : Value) (wO4 : Sta Z Z.heap "jdk/internal/util/Preconditions" "SIOOBE_FORMATTER" "Ljava/util/function/BiFunction;" wG3) (wrG3 : wG3.isRef = true) (hstr : ∀ a ∈ Bundle.stringAtoms, a.before a0 Z = true) (hEL : EW Z a0 consts_1) (h0 : Heap) (n0 : Nat) (X00 : Old Z n0 h0) (a1 : Addr) (t : Addr) (k : ClassId) (q : Int32) (f0 : Exa Z h0 a1 "java/lang/String") (f1 : Fld Z h0 a1 "java/lang/String" "value" "[B" (.ref t)) (f2 : Fld Z h0 a1 "java/lang/String" "coder" "B" (.int (0 : Int32))) (f3 : Arv Z h0 t k .byte (0 : Int32) [] (.int (0 : Int32))) (hq : ¬ q < 0 ∧ ¬ (255 : Int32) < q) :
    MetFree l (⟨"java/lang/String", "indexOf", "(II)I"⟩ : MethodName) (head1 (Jvm.Cond.code (⟨"java/lang/String", "indexOf", "(II)I"⟩ : MethodName) jdk_42_method_80_code 3 (some .int) :: ws) ({ frames := 2, cells := 0, slots := 0, locals := 28 } : Room)) (fun a U => a = #[(.ref a1), (.int q), (.int (0 : Int32))] ∧ Z.Warmed39 U.vm ∧ U.heap = h0) (fun _ _ _ _ _ => True) (fun _ U o U' => ∃ v L, o = .returned v ∧ Q_io2_0 Z a1 t k q h0 n0 v U'.heap L ∧ FrameEnd U o U' L ({ frames := 2, cells := 0, slots := 0, locals := 28 } : Room).cells ({ frames := 2, cells := 0, slots := 0, locals := 28 } : Room).slots) := by
  refine MetFree.of_bodySF (plainFor_of_name pn_52039224) hisR ?_
  intro p e s m args below meth c s₁ Bd hml0 hP hK
  obtain ⟨rfl, hZ, hh⟩ := hP
  have hx := Bd.exec
  have hby := Bd.bytes
  have hlk := Bd.notSynchronized
  have hml : c.maxLocals = 3 := hml0
  have hown : s.vm.findClass "java/lang/String" = some m.cls := findClass_of_methodNamed Bd.named
  have hnm := (name_of_methodNamed Bd.named Bd.method).1
  have X0 : Stand p l e ({ frames := 2, cells := 0, slots := 0, locals := 28 } : Room) s m #[(.ref a1), (.int q), (.int (0 : Int32))] below meth c s₁ [] 0 0 := Stand.of_body Bd
  have e0 : s₁.heap = h0 := by rw [← hh, Bd.state]; rfl
  have N0 := Fr.nil n0
  have Z0 : n0 ≤ h0.size := X00.1 ▸ X00.2.1
  have K0 : Keep h0 h0 ([] : List Addr) := Keep.refl _ _
  show OwnGoes p e below (fun o U' => ∃ v L, o = .returned v ∧ Q_io2_0 Z a1 t k q h0 n0 v U'.heap L ∧ FrameEnd s o U' L ({ frames := 2, cells := 0, slots := 0, locals := 28 } : Room).cells ({ frames := 2, cells := 0, slots := 0, locals := 28 } : Room).slots) s₁ (entryFrame m #[(.ref a1), (.int q), (.int (0 : Int32))] 3)
  refine OwnGoes.step (T' := s₁) (g' := (mkF m 0 #[.val (.ref a1), .val (.int q), .val (.int (0 : Int32))] [])) (fun tgt kgo => castTop (ef_io2_0 m a1 q) kgo) ?_
  refine OwnGoes.step (T' := s₁) (g' := (mkF m 1 #[.val (.ref a1), .val (.int q), .val (.int (0 : Int32))] [(.ref a1)])) (fun tgt kgo => ?_) ?_
  · show Steps p.tables e below (s₁.setTop (mkF m 0 #[.val (.ref a1), .val (.int q), .val (.int (0 : Int32))] [])) tgt
    refine XS.aloadN X0.here hx rfl (hb hby dd_jdk_42_method_80_0) rfl rfl ?_
    exact kgo
  obtain ⟨cq1, kq1, q1a, q1b, q1c⟩ := isOf (s := s) hZ e0 f0
  obtain ⟨_, _, ⟨T1, L1, k1, n1⟩, -, X1, ⟨Lc1, hQ1, l1, y1, z1⟩, st1⟩ := X0.virtualBack hx (y := (⟨"java/lang/String", "isLatin1", "()Z"⟩ : MethodName)) (z := (⟨"java/lang/String", "isLatin1", "()Z"⟩ : MethodName)) hown (mvT hZ (hw _ (List.mem_of_getElem? (i := 93) rfl))) (mvT hZ (hw _ (List.mem_of_getElem? (i := 94) rfl))) (notFace_of_selects (args := #[]) (mvT hZ (hw _ (List.mem_of_getElem? (i := 96) rfl)))) (mvT hZ (hw _ (List.mem_of_getElem? (i := 96) rfl))) (mvT hZ (hw _ (List.mem_of_getElem? (i := 95) rfl))) (by decide) (backOf (W := 0) (rm_isl l Z a0 hw [] wG1 wO2 wP5 wG3 wO4 wrG3 hstr hEL h0 n0 X00 a1 f2) hZ (hw _ (List.mem_of_getElem? (i := 97) rfl)) (hw _ (List.mem_of_getElem? (i := 6) rfl)) (by decide) (by decide)) q1a q1c (g := (mkF m 1 #[.val (.ref a1), .val (.int q), .val (.int (0 : Int32))] [(.ref a1)])) rfl (by rw [hml]; rfl) (Steps.refl _) (argsL := []) (rest := []) (lenOf pd_15861835 rfl) rfl (by show 2 * 0 + _ ≤ _; exact Nat.le_of_eq rfl) (hb hby dd_jdk_42_method_80_1) (fun _ _ => ⟨rfl, e0, (by decide : 0 + 0 ≤ _), (by decide : 0 + 0 ≤ _)⟩)
  dsimp only [Pt.U, Pt.locs, Pt.cells, Pt.slots] at X1 l1 y1 z1 st1 hQ1
  subst l1 y1 z1
  obtain ⟨rfl, Nq1, eq1⟩ := hQ1
  refine OwnGoes.tr (T' := T1) (g' := (mkF m 4 #[.val (.ref a1), .val (.int q), .val (.int (0 : Int32))] [(.int (1 : Int32))])) st1 ?_
  have N1 := Fr.app N0 Nq1
  refine OwnGoes.step (T' := T1) (g' := (mkF m 8 #[.val (.ref a1), .val (.int q), .val (.int (0 : Int32))] [(.ref a1)])) (fun tgt kgo => ?_) ?_
  · show Steps p.tables e below (T1.setTop (mkF m 4 #[.val (.ref a1), .val (.int q), .val (.int (0 : Int32))] [(.int (1 : Int32))])) tgt
    refine XS.ifNo X1.here hx rfl (hb hby dd_jdk_42_method_80_4) rfl ((if0 _ _).trans (feq (by decide : ¬ ((1 : Int32) = (0 : Int32)))).1) ?_
    show Steps p.tables e below (T1.setTop (mkF m 7 #[.val (.ref a1), .val (.int q), .val (.int (0 : Int32))] [])) tgt
    refine XS.aloadN X1.here hx rfl (hb hby dd_jdk_42_method_80_7) rfl rfl ?_
    exact kgo
  obtain ⟨T2, X2, e2, st2⟩ := getF X1 hx hZ hown (host := "") (Or.inl (hw _ (List.mem_of_getElem? (i := 32) rfl))) Via.refl eq1 f1 (g := (mkF m 8 #[.val (.ref a1), .val (.int q), .val (.int (0 : Int32))] [(.ref a1)])) rfl rfl (hb hby dd_jdk_42_method_80_8)
  refine OwnGoes.step (T' := T2) (g' := (mkF m 11 #[.val (.ref a1), .val (.int q), .val (.int (0 : Int32))] [(.ref t)])) st2 ?_
  refine OwnGoes.step (T' := T2) (g' := (mkF m 14 #[.val (.ref a1), .val (.int q), .val (.int (0 : Int32))] [(.ref a1), (.int (0 : Int32)), (.int q), (.ref t)])) (fun tgt kgo => ?_) ?_
  · show Steps p.tables e below (T2.setTop (mkF m 11 #[.val (.ref a1), .val (.int q), .val (.int (0 : Int32))] [(.ref t)])) tgt
    refine XS.iloadN X2.here hx rfl (hb hby dd_jdk_42_method_80_11) rfl ?_
    show Steps p.tables e below (T2.setTop (mkF m 12 #[.val (.ref a1), .val (.int q), .val (.int (0 : Int32))] [(.int q), (.ref t)])) tgt
    refine XS.iloadN X2.here hx rfl (hb hby dd_jdk_42_method_80_12) rfl ?_
    show Steps p.tables e below (T2.setTop (mkF m 13 #[.val (.ref a1), .val (.int q), .val (.int (0 : Int32))] [(.int (0 : Int32)), (.int q), (.ref t)])) tgt
    refine XS.aloadN X2.here hx rfl (hb hby dd_jdk_42_method_80_13) rfl rfl ?_
    exact kgo
  obtain ⟨cq3, kq3, q3a, q3b, q3c⟩ := isOf (s := s) hZ e2 f0
  obtain ⟨_, _, ⟨T3, L3, k3, n3⟩, -, X3, ⟨Lc3, hQ3, l3, y3, z3⟩, st3⟩ := X2.virtualBack hx (y := (⟨"java/lang/String", "length", "()I"⟩ : MethodName)) (z := (⟨"java/lang/String", "length", "()I"⟩ : MethodName)) hown (mvT hZ (hw _ (List.mem_of_getElem? (i := 98) rfl))) (mvT hZ (hw _ (List.mem_of_getElem? (i := 99) rfl))) (notFace_of_selects (args := #[]) (mvT hZ (hw _ (List.mem_of_getElem? (i := 101) rfl)))) (mvT hZ (hw _ (List.mem_of_getElem? (i := 101) rfl))) (mvT hZ (hw _ (List.mem_of_getElem? (i := 100) rfl))) (by decide) (backOf (W := 3) (rm_len0 l Z a0 hw [] wG1 wO2 wP5 wG3 wO4 wrG3 hstr hEL h0 n0 X00 a1 t k f0 f1 f2 f3) hZ (hw _ (List.mem_of_getElem? (i := 102) rfl)) (hw _ (List.mem_of_getElem? (i := 6) rfl)) (by decide) (by decide)) q3a q3c (g := (mkF m 14 #[.val (.ref a1), .val (.int q), .val (.int (0 : Int32))] [(.ref a1), (.int (0 : Int32)), (.int q), (.ref t)])) rfl (by rw [hml]; rfl) (Steps.refl _) (argsL := []) (rest := [(.int (0 : Int32)), (.int q), (.ref t)]) (lenOf pd_86913941 rfl) rfl (by show 2 * 0 + _ ≤ _; exact Nat.le_of_eq rfl) (hb hby dd_jdk_42_method_80_14) (fun _ _ => ⟨rfl, e2, (by decide : 0 + 0 ≤ _), (by decide : 0 + 0 ≤ _)⟩)
  dsimp only [Pt.U, Pt.locs, Pt.cells, Pt.slots] at X3 l3 y3 z3 st3 hQ3
  subst l3 y3 z3
  obtain ⟨rfl, Nq3, eq3⟩ := hQ3
  refine OwnGoes.tr (T' := T3) (g' := (mkF m 17 #[.val (.ref a1), .val (.int q), .val (.int (0 : Int32))] [(.int (0 : Int32)), (.int (0 : Int32)), (.int q), (.ref t)])) st3 ?_
  have N3 := Fr.app N1 Nq3
  obtain ⟨_, _, ⟨T4, L4, k4, n4⟩, -, X4, ⟨Lc4, hQ4, l4, y4, z4⟩, st4⟩ := Jvm.LawKit.callS X3 hx (y := (⟨"java/lang/StringLatin1", "indexOf", "([BIII)I"⟩ : MethodName)) hown (mvT hZ (hw _ (List.mem_of_getElem? (i := 108) rfl))) (mvT hZ (hw _ (List.mem_of_getElem? (i := 109) rfl))) (mvT hZ (hw _ (List.mem_of_getElem? (i := 39) rfl))) (mvT hZ (hw _ (List.mem_of_getElem? (i := 110) rfl))) (by decide) (backOf (W := 0) (rm_iol0 l Z a0 hw [] wG1 wO2 wP5 wG3 wO4 wrG3 hstr hEL h0 n0 X00 t k q f3 hq) hZ (hw _ (List.mem_of_getElem? (i := 110) rfl)) (hw _ (List.mem_of_getElem? (i := 39) rfl)) (by decide) (by decide)) (g := (mkF m 17 #[.val (.ref a1), .val (.int q), .val (.int (0 : Int32))] [(.int (0 : Int32)), (.int (0 : Int32)), (.int q), (.ref t)])) rfl (by rw [hml]; rfl) (argsL := [(.ref t), (.int q), (.int (0 : Int32)), (.int (0 : Int32))]) (rest := []) (lenOf pd_68989375 rfl) rfl (by show 2 * 0 + _ ≤ _; exact Nat.le_of_eq rfl) (hb hby dd_jdk_42_method_80_17) (fun _ _ => ⟨rfl, eq3, (by decide : 0 + 0 ≤ _), (by decide : 0 + 0 ≤ _)⟩)
  dsimp only [Pt.U, Pt.locs, Pt.cells, Pt.slots] at X4 l4 y4 z4 st4 hQ4
  subst l4 y4 z4
  obtain ⟨r_4, rfl, Nq4, eq4, pq4_0⟩ := hQ4
  refine OwnGoes.step (T' := T4) (g' := (mkF m 20 #[.val (.ref a1), .val (.int q), .val (.int (0 : Int32))] [(.int r_4)])) st4 ?_
  have N4 := Fr.app N3 Nq4
  refine OwnGoes.step (T' := T4) (g' := (mkF m 36 #[.val (.ref a1), .val (.int q), .val (.int (0 : Int32))] [(.int r_4)])) (fun tgt kgo => ?_) ?_
  · show Steps p.tables e below (T4.setTop (mkF m 20 #[.val (.ref a1), .val (.int q), .val (.int (0 : Int32))] [(.int r_4)])) tgt
    refine XS.goto X4.here hx rfl (pc0 := 20) (pc' := 36) rfl (hb hby dd_jdk_42_method_80_20) (by decide) (by decide) ?_
    exact kgo
  refine own_leave X4 hlk (v := some (.int r_4)) (fun h => by rw [Bd.returns] at h; cases h) (fun fs hr => retI X4 hx Bd.returns (hb hby dd_jdk_42_method_80_36) hr) (by decide) (by decide) ?_
  show Q_io2_0 Z a1 t k q h0 n0 _ T4.heap _
  rw [eq4]
  exact ⟨r_4, rfl, N4, rfl, pq4_0⟩
theorem ef_io1_0 (m : MethodId) (x0 : Addr) (x1 : Int32) : entryFrame m #[(.ref x0), (.int x1)] 2 = mkF m 0 #[.val (.ref x0), .val (.int x1)] [] := by first | (simp [entryFrame, mkF, argsToLocals, Value.category]; done) | rfl
def Q_io1_0 (Z : State) (a1 : Addr) (t : Addr) (k : ClassId) (q : Int32) (h0 : Heap) (n0 : Nat) (v : Option Value) (h : Heap) (L : List Loc) : Prop := ∃ (r : Int32), v = some (.int r) ∧ Fr n0 L ∧ h = h0 ∧ (((False) ∧ ¬ r < 0) ∨ (¬ (False) ∧ r < 0))
theorem dd_jdk_42_method_79_0 : decode jdk_42_method_79_code 0 = .ok (.aload_n 0, 1) := by decide +kernel
theorem dd_jdk_42_method_79_1 : decode jdk_42_method_79_code 1 = .ok (.iload_n 1, 1) := by decide +kernel
theorem dd_jdk_42_method_79_2 : decode jdk_42_method_79_code 2 = .ok (.iconst 0, 1) := by decide +kernel
theorem dd_jdk_42_method_79_3 : decode jdk_42_method_79_code 3 = .ok (.invokevirtual 633, 3) := by decide +kernel
theorem dd_jdk_42_method_79_6 : decode jdk_42_method_79_code 6 = .ok (.ireturn, 1) := by decide +kernel
set_option maxRecDepth 65536 in
set_option maxHeartbeats 40000000 in
theorem rm_io1_0 (l : Launch) (Z : State) (a0 : Array Value) (hw : ∀ d ∈ tables_1, d.before a0 Z = true) (ws : List Jvm.Cond) (wG1 : Int32) (wO2 : Sta Z Z.heap "java/lang/String" "COMPACT_STRINGS" "Z" (.int wG1)) (wP5 : ¬ (wG1 = (0 : Int32))) (wG3 : Value) (wO4 : Sta Z Z.heap "jdk/internal/util/Preconditions" "SIOOBE_FORMATTER" "Ljava/util/function/BiFunction;" wG3) (wrG3 : wG3.isRef = true) (hstr : ∀ a ∈ Bundle.stringAtoms, a.before a0 Z = true) (hEL : EW Z a0 consts_1) (h0 : Heap) (n0 : Nat) (X00 : Old Z n0 h0) (a1 : Addr) (t : Addr) (k : ClassId) (q : Int32) (f0 : Exa Z h0 a1 "java/lang/String") (f1 : Fld Z h0 a1 "java/lang/String" "value" "[B" (.ref t)) (f2 : Fld Z h0 a1 "java/lang/String" "coder" "B" (.int (0 : Int32))) (f3 : Arv Z h0 t k .byte (0 : Int32) [] (.int (0 : Int32))) (hq : ¬ q < 0 ∧ ¬ (255 : Int32) < q) :
    MetFree l (⟨"java/lang/String", "indexOf", "(I)I"⟩ : MethodName) (head1 (Jvm.Cond.code (⟨"java/lang/String", "indexOf", "(I)I"⟩ : MethodName) jdk_42_method_79_code 2 (some .int) :: ws) ({ frames := 3, cells := 0, slots := 0, locals := 42 } : Room)) (fun a U => a = #[(.ref a1), (.int q)] ∧ Z.Warmed39 U.vm ∧ U.heap = h0) (fun _ _ _ _ _ => True) (fun _ U o U' => ∃ v L, o = .returned v ∧ Q_io1_0 Z a1 t k q h0 n0 v U'.heap L ∧ FrameEnd U o U' L ({ frames := 3, cells := 0, slots := 0, locals := 42 } : Room).cells ({ frames := 3, cells := 0, slots := 0, locals := 42 } : Room).slots) := by
  refine MetFree.of_bodySF (plainFor_of_name pn_52039224) hisR ?_
  intro p e s m args below meth c s₁ Bd hml0 hP hK
  obtain ⟨rfl, hZ, hh⟩ := hP
  have hx := Bd.exec
  have hby := Bd.bytes
  have hlk := Bd.notSynchronized
  have hml : c.maxLocals = 2 := hml0
  have hown : s.vm.findClass "java/lang/String" = some m.cls := findClass_of_methodNamed Bd.named
  have hnm := (name_of_methodNamed Bd.named Bd.method).1
  have X0 : Stand p l e ({ frames := 3, cells := 0, slots := 0, locals := 42 } : Room) s m #[(.ref a1), (.int q)] below meth c s₁ [] 0 0 := Stand.of_body Bd
  have e0 : s₁.heap = h0 := by rw [← hh, Bd.state]; rfl
  have N0 := Fr.nil n0
  have Z0 : n0 ≤ h0.size := X00.1 ▸ X00.2.1
  have K0 : Keep h0 h0 ([] : List Addr) := Keep.refl _ _
  show OwnGoes p e below (fun o U' => ∃ v L, o = .returned v ∧ Q_io1_0 Z a1 t k q h0 n0 v U'.heap L ∧ FrameEnd s o U' L ({ frames := 3, cells := 0, slots := 0, locals := 42 } : Room).cells ({ frames := 3, cells := 0, slots := 0, locals := 42 } : Room).slots) s₁ (entryFrame m #[(.ref a1), (.int q)] 2)
  refine OwnGoes.step (T' := s₁) (g' := (mkF m 0 #[.val (.ref a1), .val (.int q)] [])) (fun tgt kgo => castTop (ef_io1_0 m a1 q) kgo) ?_
  refine OwnGoes.step (T' := s₁) (g' := (mkF m 3 #[.val (.ref a1), .val (.int q)] [(.int (0 : Int32)), (.int q), (.ref a1)])) (fun tgt kgo => ?_) ?_
  · show Steps p.tables e below (s₁.setTop (mkF m 0 #[.val (.ref a1), .val (.int q)] [])) tgt
    refine XS.aloadN X0.here hx rfl (hb hby dd_jdk_42_method_79_0) rfl rfl ?_
    show Steps p.tables e below (s₁.setTop (mkF m 1 #[.val (.ref a1), .val (.int q)] [(.ref a1)])) tgt
    refine XS.iloadN X0.here hx rfl (hb hby dd_jdk_42_method_79_1) rfl ?_
    show Steps p.tables e below (s₁.setTop (mkF m 2 #[.val (.ref a1), .val (.int q)] [(.int q), (.ref a1)])) tgt
    refine XS.iconst X0.here hx rfl (hb hby dd_jdk_42_method_79_2) ?_
    exact kgo
  obtain ⟨cq1, kq1, q1a, q1b, q1c⟩ := isOf (s := s) hZ e0 f0
  obtain ⟨_, _, ⟨T1, L1, k1, n1⟩, -, X1, ⟨Lc1, hQ1, l1, y1, z1⟩, st1⟩ := X0.virtualBack hx (y := (⟨"java/lang/String", "indexOf", "(II)I"⟩ : MethodName)) (z := (⟨"java/lang/String", "indexOf", "(II)I"⟩ : MethodName)) hown (mvT hZ (hw _ (List.mem_of_getElem? (i := 88) rfl))) (mvT hZ (hw _ (List.mem_of_getElem? (i := 89) rfl))) (notFace_of_selects (args := #[]) (mvT hZ (hw _ (List.mem_of_getElem? (i := 91) rfl)))) (mvT hZ (hw _ (List.mem_of_getElem? (i := 91) rfl))) (mvT hZ (hw _ (List.mem_of_getElem? (i := 90) rfl))) (by decide) (backOf (W := 0) (rm_io2_0 l Z a0 hw [] wG1 wO2 wP5 wG3 wO4 wrG3 hstr hEL h0 n0 X00 a1 t k q f0 f1 f2 f3 hq) hZ (hw _ (List.mem_of_getElem? (i := 92) rfl)) (hw _ (List.mem_of_getElem? (i := 6) rfl)) (by decide) (by decide)) q1a q1c (g := (mkF m 3 #[.val (.ref a1), .val (.int q)] [(.int (0 : Int32)), (.int q), (.ref a1)])) rfl (by rw [hml]; rfl) (Steps.refl _) (argsL := [(.int q), (.int (0 : Int32))]) (rest := []) (lenOf pd_50523903 rfl) rfl (by show 2 * 0 + _ ≤ _; exact Nat.le_of_eq rfl) (hb hby dd_jdk_42_method_79_3) (fun _ _ => ⟨rfl, e0, (by decide : 0 + 0 ≤ _), (by decide : 0 + 0 ≤ _)⟩)
  dsimp only [Pt.U, Pt.locs, Pt.cells, Pt.slots] at X1 l1 y1 z1 st1 hQ1
  subst l1 y1 z1
  obtain ⟨r_1, rfl, Nq1, eq1, pq1_0⟩ := hQ1
  refine OwnGoes.tr (T' := T1) (g' := (mkF m 6 #[.val (.ref a1), .val (.int q)] [(.int r_1)])) st1 ?_
  have N1 := Fr.app N0 Nq1
  refine own_leave X1 hlk (v := some (.int r_1)) (fun h => by rw [Bd.returns] at h; cases h) (fun fs hr => retI X1 hx Bd.returns (hb hby dd_jdk_42_method_79_6) hr) (by decide) (by decide) ?_
  show Q_io1_0 Z a1 t k q h0 n0 _ T1.heap _
  rw [eq1]
  exact ⟨r_1, rfl, N1, rfl, pq1_0⟩
theorem ef_alw0 (m : MethodId) (x0 : Addr) (x1 : Int32) : entryFrame m #[(.ref x0), (.int x1)] 2 = mkF m 0 #[.val (.ref x0), .val (.int x1)] [] := by first | (simp [entryFrame, mkF, argsToLocals, Value.category]; done) | rfl
def Q_alw0 (Z : State) (o1 : Addr) (a1 : Addr) (t : Addr) (k : ClassId) (q : Int32) (h0 : Heap) (n0 : Nat) (v : Option Value) (h : Heap) (L : List Loc) : Prop := ∃ (r : Int32), v = some (.int r) ∧ Fr n0 L ∧ h = h0 ∧ (((False) ∧ r = 1) ∨ (¬ (False) ∧ r = 0))
theorem pn_85196114 : plainName "com/example/fieldwright/fieldwright/FieldStructure" = true := by first | (simp [plainName, overriddenIn]; done) | decide +kernel
theorem dd_prog_18_method_6_0 : decode prog_18_method_6_code 0 = .ok (.aload_n 0, 1) := by decide +kernel
theorem dd_prog_18_method_6_1 : decode prog_18_method_6_code 1 = .ok (.getfield 22, 3) := by decide +kernel
theorem dd_prog_18_method_6_4 : decode prog_18_method_6_code 4 = .ok (.iload_n 1, 1) := by decide +kernel
theorem dd_prog_18_method_6_5 : decode prog_18_method_6_code 5 = .ok (.invokevirtual 105, 3) := by decide +kernel
theorem pd_92649053 : parseMethodDescriptor "(I)I" = some ⟨[.int], some .int⟩ := by decide +kernel
theorem dd_prog_18_method_6_8 : decode prog_18_method_6_code 8 = .ok (.ifCond .lt 7, 3) := by decide +kernel
theorem dd_prog_18_method_6_15 : decode prog_18_method_6_code 15 = .ok (.iconst 0, 1) := by decide +kernel
theorem dd_prog_18_method_6_16 : decode prog_18_method_6_code 16 = .ok (.ireturn, 1) := by decide +kernel
theorem dd_prog_18_method_6_11 : decode prog_18_method_6_code 11 = .ok (.iconst 1, 1) := by decide +kernel
theorem dd_prog_18_method_6_12 : decode prog_18_method_6_code 12 = .ok (.goto 4, 3) := by decide +kernel
set_option maxRecDepth 65536 in
set_option maxHeartbeats 40000000 in
theorem rm_alw0 (l : Launch) (Z : State) (a0 : Array Value) (hw : ∀ d ∈ tables_1, d.before a0 Z = true) (ws : List Jvm.Cond) (wG1 : Int32) (wO2 : Sta Z Z.heap "java/lang/String" "COMPACT_STRINGS" "Z" (.int wG1)) (wP5 : ¬ (wG1 = (0 : Int32))) (wG3 : Value) (wO4 : Sta Z Z.heap "jdk/internal/util/Preconditions" "SIOOBE_FORMATTER" "Ljava/util/function/BiFunction;" wG3) (wrG3 : wG3.isRef = true) (hstr : ∀ a ∈ Bundle.stringAtoms, a.before a0 Z = true) (hEL : EW Z a0 consts_1) (h0 : Heap) (n0 : Nat) (X00 : Old Z n0 h0) (o1 : Addr) (a1 : Addr) (t : Addr) (k : ClassId) (q : Int32) (f0 : Fld Z h0 o1 "com/example/fieldwright/fieldwright/FieldStructure" "subfields" "Ljava/lang/String;" (.ref a1)) (f1 : Exa Z h0 a1 "java/lang/String") (f2 : Fld Z h0 a1 "java/lang/String" "value" "[B" (.ref t)) (f3 : Fld Z h0 a1 "java/lang/String" "coder" "B" (.int (0 : Int32))) (f4 : Arv Z h0 t k .byte (0 : Int32) [] (.int (0 : Int32))) (hq : ¬ q < 0 ∧ ¬ (255 : Int32) < q) :
    MetFree l (⟨"com/example/fieldwright/fieldwright/FieldStructure", "allows", "(C)Z"⟩ : MethodName) (head1 (Jvm.Cond.code (⟨"com/example/fieldwright/fieldwright/FieldStructure", "allows", "(C)Z"⟩ : MethodName) prog_18_method_6_code 2 (some .boolean) :: ws) ({ frames := 4, cells := 0, slots := 0, locals := 55 } : Room)) (fun a U => a = #[(.ref o1), (.int q)] ∧ Z.Warmed39 U.vm ∧ U.heap = h0) (fun _ _ _ _ _ => True) (fun _ U o U' => ∃ v L, o = .returned v ∧ Q_alw0 Z o1 a1 t k q h0 n0 v U'.heap L ∧ FrameEnd U o U' L ({ frames := 4, cells := 0, slots := 0, locals := 55 } : Room).cells ({ frames := 4, cells := 0, slots := 0, locals := 55 } : Room).slots) := by
  refine MetFree.of_bodySF (plainFor_of_name pn_85196114) hisR ?_
  intro p e s m args below meth c s₁ Bd hml0 hP hK
  obtain ⟨rfl, hZ, hh⟩ := hP
  have hx := Bd.exec
  have hby := Bd.bytes
  have hlk := Bd.notSynchronized
  have hml : c.maxLocals = 2 := hml0
  have hown : s.vm.findClass "com/example/fieldwright/fieldwright/FieldStructure" = some m.cls := findClass_of_methodNamed Bd.named
  have hnm := (name_of_methodNamed Bd.named Bd.method).1
  have X0 : Stand p l e ({ frames := 4, cells := 0, slots := 0, locals := 55 } : Room) s m #[(.ref o1), (.int q)] below meth c s₁ [] 0 0 := Stand.of_body Bd
  have e0 : s₁.heap = h0 := by rw [← hh, Bd.state]; rfl
  have N0 := Fr.nil n0
  have Z0 : n0 ≤ h0.size := X00.1 ▸ X00.2.1
  have K0 : Keep h0 h0 ([] : List Addr) := Keep.refl _ _
  show OwnGoes p e below (fun o U' => ∃ v L, o = .returned v ∧ Q_alw0 Z o1 a1 t k q h0 n0 v U'.heap L ∧ FrameEnd s o U' L ({ frames := 4, cells := 0, slots := 0, locals := 55 } : Room).cells ({ frames := 4, cells := 0, slots := 0, locals := 55 } : Room).slots) s₁ (entryFrame m #[(.ref o1), (.int q)] 2)
  refine OwnGoes.step (T' := s₁) (g' := (mkF m 0 #[.val (.ref o1), .val (.int q)] [])) (fun tgt kgo => castTop (ef_alw0 m o1 q) kgo) ?_
  refine OwnGoes.step (T' := s₁) (g' := (mkF m 1 #[.val (.ref o1), .val (.int q)] [(.ref o1)])) (fun tgt kgo => ?_) ?_
  · show Steps p.tables e below (s₁.setTop (mkF m 0 #[.val (.ref o1), .val (.int q)] [])) tgt
    refine XS.aloadN X0.here hx rfl (hb hby dd_prog_18_method_6_0) rfl rfl ?_
    exact kgo
  obtain ⟨T1, X1, e1, st1⟩ := getF X0 hx hZ hown (host := "") (Or.inl (hw _ (List.mem_of_getElem? (i := 74) rfl))) Via.refl e0 f0 (g := (mkF m 1 #[.val (.ref o1), .val (.int q)] [(.ref o1)])) rfl rfl (hb hby dd_prog_18_method_6_1)
  refine OwnGoes.step (T' := T1) (g' := (mkF m 4 #[.val (.ref o1), .val (.int q)] [(.ref a1)])) st1 ?_
  refine OwnGoes.step (T' := T1) (g' := (mkF m 5 #[.val (.ref o1), .val (.int q)] [(.int q), (.ref a1)])) (fun tgt kgo => ?_) ?_
  · show Steps p.tables e below (T1.setTop (mkF m 4 #[.val (.ref o1), .val (.int q)] [(.ref a1)])) tgt
    refine XS.iloadN X1.here hx rfl (hb hby dd_prog_18_method_6_4) rfl ?_
    exact kgo
  obtain ⟨cq2, kq2, q2a, q2b, q2c⟩ := isOf (s := s) hZ e1 f1
  obtain ⟨_, _, ⟨T2, L2, k2, n2⟩, -, X2, ⟨Lc2, hQ2, l2, y2, z2⟩, st2⟩ := X1.virtualBack hx (y := (⟨"java/lang/String", "indexOf", "(I)I"⟩ : MethodName)) (z := (⟨"java/lang/String", "indexOf", "(I)I"⟩ : MethodName)) hown (mvT hZ (hw _ (List.mem_of_getElem? (i := 83) rfl))) (mvT hZ (hw _ (List.mem_of_getElem? (i := 84) rfl))) (notFace_of_selects (args := #[]) (mvT hZ (hw _ (List.mem_of_getElem? (i := 86) rfl)))) (mvT hZ (hw _ (List.mem_of_getElem? (i := 86) rfl))) (mvT hZ (hw _ (List.mem_of_getElem? (i := 85) rfl))) (by decide) (backOf (W := 0) (rm_io1_0 l Z a0 hw [] wG1 wO2 wP5 wG3 wO4 wrG3 hstr hEL h0 n0 X00 a1 t k q f1 f2 f3 f4 hq) hZ (hw _ (List.mem_of_getElem? (i := 87) rfl)) (hw _ (List.mem_of_getElem? (i := 6) rfl)) (by decide) (by decide)) q2a q2c (g := (mkF m 5 #[.val (.ref o1), .val (.int q)] [(.int q), (.ref a1)])) rfl (by rw [hml]; rfl) (Steps.refl _) (argsL := [(.int q)]) (rest := []) (lenOf pd_92649053 rfl) rfl (by show 2 * 0 + _ ≤ _; exact Nat.le_of_eq rfl) (hb hby dd_prog_18_method_6_5) (fun _ _ => ⟨rfl, e1, (by decide : 0 + 0 ≤ _), (by decide : 0 + 0 ≤ _)⟩)
  dsimp only [Pt.U, Pt.locs, Pt.cells, Pt.slots] at X2 l2 y2 z2 st2 hQ2
  subst l2 y2 z2
  obtain ⟨r_2, rfl, Nq2, eq2, pq2_0⟩ := hQ2
  refine OwnGoes.tr (T' := T2) (g' := (mkF m 8 #[.val (.ref o1), .val (.int q)] [(.int r_2)])) st2 ?_
  have N2 := Fr.app N0 Nq2
  by_cases cc3 : r_2 < (0 : Int32)
  · skip
    refine OwnGoes.step (T' := T2) (g' := (mkF m 16 #[.val (.ref o1), .val (.int q)] [(.int (0 : Int32))])) (fun tgt kgo => ?_) ?_
    · show Steps p.tables e below (T2.setTop (mkF m 8 #[.val (.ref o1), .val (.int q)] [(.int r_2)])) tgt
      refine XS.ifYes X2.here hx rfl (pc0 := 8) (pc' := 15) rfl (hb hby dd_prog_18_method_6_8) rfl ((if0 _ _).trans (tlt cc3).1) (by decide) (by decide) ?_
      show Steps p.tables e below (T2.setTop (mkF m 15 #[.val (.ref o1), .val (.int q)] [])) tgt
      refine XS.iconst X2.here hx rfl (hb hby dd_prog_18_method_6_15) ?_
      exact kgo
    refine own_leave X2 hlk (v := some (.int (0 : Int32))) (fun h => by rw [Bd.returns] at h; cases h) (fun fs hr => retN X2 hx (t := .boolean) Bd.returns (by simp) (hb hby dd_prog_18_method_6_16) (by rw [(by decide : nar .boolean (0 : Int32) = (0 : Int32))]; exact hr)) (by decide) (by decide) ?_
    show Q_alw0 Z o1 a1 t k q h0 n0 _ T2.heap _
    rw [eq2]
    exact ⟨(0 : Int32), rfl, N2, rfl, (Or.inr ⟨(pq2_0.resolve_left fun z => z.2 cc3).1, rfl⟩)⟩
  · skip
    refine OwnGoes.step (T' := T2) (g' := (mkF m 16 #[.val (.ref o1), .val (.int q)] [(.int (1 : Int32))])) (fun tgt kgo => ?_) ?_
    · show Steps p.tables e below (T2.setTop (mkF m 8 #[.val (.ref o1), .val (.int q)] [(.int r_2)])) tgt
      refine XS.ifNo X2.here hx rfl (hb hby dd_prog_18_method_6_8) rfl ((if0 _ _).trans (flt cc3).1) ?_
      show Steps p.tables e below (T2.setTop (mkF m 11 #[.val (.ref o1), .val (.int q)] [])) tgt
      refine XS.iconst X2.here hx rfl (hb hby dd_prog_18_method_6_11) ?_
      show Steps p.tables e below (T2.setTop (mkF m 12 #[.val (.ref o1), .val (.int q)] [(.int (1 : Int32))])) tgt
      refine XS.goto X2.here hx rfl (pc0 := 12) (pc' := 16) rfl (hb hby dd_prog_18_method_6_12) (by decide) (by decide) ?_
      exact kgo
    refine own_leave X2 hlk (v := some (.int (1 : Int32))) (fun h => by rw [Bd.returns] at h; cases h) (fun fs hr => retN X2 hx (t := .boolean) Bd.returns (by simp) (hb hby dd_prog_18_method_6_16) (by rw [(by decide : nar .boolean (1 : Int32) = (1 : Int32))]; exact hr)) (by decide) (by decide) ?_
    show Q_alw0 Z o1 a1 t k q h0 n0 _ T2.heap _
    rw [eq2]
    exact ⟨(1 : Int32), rfl, N2, rfl, (Or.inl ⟨(pq2_0.resolve_right fun z => cc3 z.2).1, rfl⟩)⟩
theorem ef_len1 (m : MethodId) (x0 : Addr) : entryFrame m #[(.ref x0)] 1 = mkF m 0 #[.val (.ref x0)] [] := by first | (simp [entryFrame, mkF, argsToLocals, Value.category]; done) | rfl
def Q_len1 (Z : State) (a1 : Addr) (t : Addr) (k : ClassId) (c0 : Int32) (h0 : Heap) (n0 : Nat) (v : Option Value) (h : Heap) (L : List Loc) : Prop := v = some (.int (1 : Int32)) ∧ Fr n0 L ∧ h = h0
set_option maxRecDepth 65536 in
set_option maxHeartbeats 40000000 in
theorem rm_len1 (l : Launch) (Z : State) (a0 : Array Value) (hw : ∀ d ∈ tables_1, d.before a0 Z = true) (ws : List Jvm.Cond) (wG1 : Int32) (wO2 : Sta Z Z.heap "java/lang/String" "COMPACT_STRINGS" "Z" (.int wG1)) (wP5 : ¬ (wG1 = (0 : Int32))) (wG3 : Value) (wO4 : Sta Z Z.heap "jdk/internal/util/Preconditions" "SIOOBE_FORMATTER" "Ljava/util/function/BiFunction;" wG3) (wrG3 : wG3.isRef = true) (hstr : ∀ a ∈ Bundle.stringAtoms, a.before a0 Z = true) (hEL : EW Z a0 consts_1) (h0 : Heap) (n0 : Nat) (X00 : Old Z n0 h0) (a1 : Addr) (t : Addr) (k : ClassId) (c0 : Int32) (f0 : Exa Z h0 a1 "java/lang/String") (f1 : Fld Z h0 a1 "java/lang/String" "value" "[B" (.ref t)) (f2 : Fld Z h0 a1 "java/lang/String" "coder" "B" (.int (0 : Int32))) (f3 : Arv Z h0 t k .byte (1 : Int32) ((([c0] : List Int32).map (fun c => c.toInt8.toInt32)).map Value.int) (.int (0 : Int32))) :
    MetFree l (⟨"java/lang/String", "length", "()I"⟩ : MethodName) (head1 (Jvm.Cond.code (⟨"java/lang/String", "length", "()I"⟩ : MethodName) jdk_42_method_54_code 1 (some .int) :: ws) ({ frames := 1, cells := 0, slots := 0, locals := 13 } : Room)) (fun a U => a = #[(.ref a1)] ∧ Z.Warmed39 U.vm ∧ U.heap = h0) (fun _ _ _ _ _ => True) (fun _ U o U' => ∃ v L, o = .returned v ∧ Q_len1 Z a1 t k c0 h0 n0 v U'.heap L ∧ FrameEnd U o U' L ({ frames := 1, cells := 0, slots := 0, locals := 13 } : Room).cells ({ frames := 1, cells := 0, slots := 0, locals := 13 } : Room).slots) := by
  refine MetFree.of_bodySF (plainFor_of_name pn_52039224) hisR ?_
  intro p e s m args below meth c s₁ Bd hml0 hP hK
  obtain ⟨rfl, hZ, hh⟩ := hP
  have hx := Bd.exec
  have hby := Bd.bytes
  have hlk := Bd.notSynchronized
  have hml : c.maxLocals = 1 := hml0
  have hown : s.vm.findClass "java/lang/String" = some m.cls := findClass_of_methodNamed Bd.named
  have hnm := (name_of_methodNamed Bd.named Bd.method).1
  have X0 : Stand p l e ({ frames := 1, cells := 0, slots := 0, locals := 13 } : Room) s m #[(.ref a1)] below meth c s₁ [] 0 0 := Stand.of_body Bd
  have e0 : s₁.heap = h0 := by rw [← hh, Bd.state]; rfl
  have N0 := Fr.nil n0
  have Z0 : n0 ≤ h0.size := X00.1 ▸ X00.2.1
  have K0 : Keep h0 h0 ([] : List Addr) := Keep.refl _ _
  show OwnGoes p e below (fun o U' => ∃ v L, o = .returned v ∧ Q_len1 Z a1 t k c0 h0 n0 v U'.heap L ∧ FrameEnd s o U' L ({ frames := 1, cells := 0, slots := 0, locals := 13 } : Room).cells ({ frames := 1, cells := 0, slots := 0, locals := 13 } : Room).slots) s₁ (entryFrame m #[(.ref a1)] 1)
  refine OwnGoes.step (T' := s₁) (g' := (mkF m 0 #[.val (.ref a1)] [])) (fun tgt kgo => castTop (ef_len1 m a1) kgo) ?_
  refine OwnGoes.step (T' := s₁) (g' := (mkF m 1 #[.val (.ref a1)] [(.ref a1)])) (fun tgt kgo => ?_) ?_
  · show Steps p.tables e below (s₁.setTop (mkF m 0 #[.val (.ref a1)] [])) tgt
    refine XS.aloadN X0.here hx rfl (hb hby dd_jdk_42_method_54_0) rfl rfl ?_
    exact kgo
  obtain ⟨T1, X1, e1, st1⟩ := getF X0 hx hZ hown (host := "") (Or.inl (hw _ (List.mem_of_getElem? (i := 32) rfl))) Via.refl e0 f1 (g := (mkF m 1 #[.val (.ref a1)] [(.ref a1)])) rfl rfl (hb hby dd_jdk_42_method_54_1)
  refine OwnGoes.step (T' := T1) (g' := (mkF m 4 #[.val (.ref a1)] [(.ref t)])) st1 ?_
  refine OwnGoes.step (T' := T1) (g' := (mkF m 6 #[.val (.ref a1)] [(.ref a1), (.int (1 : Int32))])) (fun tgt kgo => ?_) ?_
  · show Steps p.tables e below (T1.setTop (mkF m 4 #[.val (.ref a1)] [(.ref t)])) tgt
    obtain ⟨cl2, Ar2, q2, S2, M2, -, -⟩ := f3
    refine X1.arraylength hx (by rw [e1]; exact Ar2.1) (State.isArrayOf_alike hZ.alike Ar2.2.1) (g := (mkF m 4 #[.val (.ref a1)] [(.ref t)])) rfl rfl (hb hby dd_jdk_42_method_54_4) _ ?_
    rw [len_of S2 M2]
    show Steps p.tables e below (T1.setTop (mkF m 5 #[.val (.ref a1)] [(.int (1 : Int32))])) tgt
    refine XS.aloadN X1.here hx rfl (hb hby dd_jdk_42_method_54_5) rfl rfl ?_
    exact kgo
  obtain ⟨cq3, kq3, q3a, q3b, q3c⟩ := isOf (s := s) hZ e1 f0
  obtain ⟨_, _, ⟨T3, L3, k3, n3⟩, -, X3, ⟨Lc3, hQ3, l3, y3, z3⟩, st3⟩ := X1.virtualBack hx (y := (⟨"java/lang/String", "coder", "()B"⟩ : MethodName)) (z := (⟨"java/lang/String", "coder", "()B"⟩ : MethodName)) hown (mvT hZ (hw _ (List.mem_of_getElem? (i := 103) rfl))) (mvT hZ (hw _ (List.mem_of_getElem? (i := 104) rfl))) (notFace_of_selects (args := #[]) (mvT hZ (hw _ (List.mem_of_getElem? (i := 106) rfl)))) (mvT hZ (hw _ (List.mem_of_getElem? (i := 106) rfl))) (mvT hZ (hw _ (List.mem_of_getElem? (i := 105) rfl))) (by decide) (backOf (W := 1) (rm_cod l Z a0 hw [] wG1 wO2 wP5 wG3 wO4 wrG3 hstr hEL h0 n0 X00 a1 f2) hZ (hw _ (List.mem_of_getElem? (i := 107) rfl)) (hw _ (List.mem_of_getElem? (i := 6) rfl)) (by decide) (by decide)) q3a q3c (g := (mkF m 6 #[.val (.ref a1)] [(.ref a1), (.int (1 : Int32))])) rfl (by rw [hml]; rfl) (Steps.refl _) (argsL := []) (rest := [(.int (1 : Int32))]) (lenOf pd_61459997 rfl) rfl (by show 2 * 0 + _ ≤ _; exact Nat.le_of_eq rfl) (hb hby dd_jdk_42_method_54_6) (fun _ _ => ⟨rfl, e1, (by decide : 0 + 0 ≤ _), (by decide : 0 + 0 ≤ _)⟩)
  dsimp only [Pt.U, Pt.locs, Pt.cells, Pt.slots] at X3 l3 y3 z3 st3 hQ3
  subst l3 y3 z3
  obtain ⟨rfl, Nq3, eq3⟩ := hQ3
  refine OwnGoes.tr (T' := T3) (g' := (mkF m 9 #[.val (.ref a1)] [(.int (0 : Int32)), (.int (1 : Int32))])) st3 ?_
  have N3 := Fr.app N0 Nq3
  refine OwnGoes.step (T' := T3) (g' := (mkF m 10 #[.val (.ref a1)] [(.int (1 : Int32))])) (fun tgt kgo => ?_) ?_
  · show Steps p.tables e below (T3.setTop (mkF m 9 #[.val (.ref a1)] [(.int (0 : Int32)), (.int (1 : Int32))])) tgt
    refine XS.ishr X3.here hx rfl (hb hby dd_jdk_42_method_54_9) rfl ?_
    exact kgo
  refine own_leave X3 hlk (v := some (.int (1 : Int32))) (fun h => by rw [Bd.returns] at h; cases h) (fun fs hr => retI X3 hx Bd.returns (hb hby dd_jdk_42_method_54_10) hr) (by decide) (by decide) ?_
  show Q_len1 Z a1 t k c0 h0 n0 _ T3.heap _
  rw [eq3]
  exact ⟨rfl, N3, rfl⟩
theorem ef_min1 (m : MethodId)  : entryFrame m #[(.int (1 : Int32)), (.int (1 : Int32))] 2 = mkF m 0 #[.val (.int (1 : Int32)), .val (.int (1 : Int32))] [] := by first | (simp [entryFrame, mkF, argsToLocals, Value.category]; done) | rfl
def Q_min1 (Z : State)  (h0 : Heap) (n0 : Nat) (v : Option Value) (h : Heap) (L : List Loc) : Prop := v = some (.int (1 : Int32)) ∧ Fr n0 L ∧ h = h0
set_option maxRecDepth 65536 in
set_option maxHeartbeats 40000000 in
theorem rm_min1 (l : Launch) (Z : State) (a0 : Array Value) (hw : ∀ d ∈ tables_1, d.before a0 Z = true) (ws : List Jvm.Cond) (wG1 : Int32) (wO2 : Sta Z Z.heap "java/lang/String" "COMPACT_STRINGS" "Z" (.int wG1)) (wP5 : ¬ (wG1 = (0 : Int32))) (wG3 : Value) (wO4 : Sta Z Z.heap "jdk/internal/util/Preconditions" "SIOOBE_FORMATTER" "Ljava/util/function/BiFunction;" wG3) (wrG3 : wG3.isRef = true) (hstr : ∀ a ∈ Bundle.stringAtoms, a.before a0 Z = true) (hEL : EW Z a0 consts_1) (h0 : Heap) (n0 : Nat) (X00 : Old Z n0 h0)  :
    MetFree l (⟨"java/lang/Math", "min", "(II)I"⟩ : MethodName) (head1 (Jvm.Cond.code (⟨"java/lang/Math", "min", "(II)I"⟩ : MethodName) jdk_29_method_69_code 2 (some .int) :: ws) ({ frames := 0, cells := 0, slots := 0, locals := 0 } : Room)) (fun a U => a = #[(.int (1 : Int32)), (.int (1 : Int32))] ∧ Z.Warmed39 U.vm ∧ U.heap = h0) (fun _ _ _ _ _ => True) (fun _ U o U' => ∃ v L, o = .returned v ∧ Q_min1 Z  h0 n0 v U'.heap L ∧ FrameEnd U o U' L ({ frames := 0, cells := 0, slots := 0, locals := 0 } : Room).cells ({ frames := 0, cells := 0, slots := 0, locals := 0 } : Room).slots) := by
  refine MetFree.of_bodySF (Jvm.Free.JP.mathPlain rfl (by decide +kernel)) hisR ?_
  intro p e s m args below meth c s₁ Bd hml0 hP hK
  obtain ⟨rfl, hZ, hh⟩ := hP
  have hx := Bd.exec
  have hby := Bd.bytes
  have hlk := Bd.notSynchronized
  have hml : c.maxLocals = 2 := hml0
  have hown : s.vm.findClass "java/lang/Math" = some m.cls := findClass_of_methodNamed Bd.named
  have hnm := (name_of_methodNamed Bd.named Bd.method).1
  have X0 : Stand p l e ({ frames := 0, cells := 0, slots := 0, locals := 0 } : Room) s m #[(.int (1 : Int32)), (.int (1 : Int32))] below meth c s₁ [] 0 0 := Stand.of_body Bd
  have e0 : s₁.heap = h0 := by rw [← hh, Bd.state]; rfl
  have N0 := Fr.nil n0
  have Z0 : n0 ≤ h0.size := X00.1 ▸ X00.2.1
  have K0 : Keep h0 h0 ([] : List Addr) := Keep.refl _ _
  show OwnGoes p e below (fun o U' => ∃ v L, o = .returned v ∧ Q_min1 Z  h0 n0 v U'.heap L ∧ FrameEnd s o U' L ({ frames := 0, cells := 0, slots := 0, locals := 0 } : Room).cells ({ frames := 0, cells := 0, slots := 0, locals := 0 } : Room).slots) s₁ (entryFrame m #[(.int (1 : Int32)), (.int (1 : Int32))] 2)
  refine OwnGoes.step (T' := s₁) (g' := (mkF m 0 #[.val (.int (1 : Int32)), .val (.int (1 : Int32))] [])) (fun tgt kgo => castTop (ef_min1 m ) kgo) ?_
  refine OwnGoes.step (T' := s₁) (g' := (mkF m 10 #[.val (.int (1 : Int32)), .val (.int (1 : Int32))] [(.int (1 : Int32))])) (fun tgt kgo => ?_) ?_
  · show Steps p.tables e below (s₁.setTop (mkF m 0 #[.val (.int (1 : Int32)), .val (.int (1 : Int32))] [])) tgt
    refine XS.iloadN X0.here hx rfl (hb hby dd_jdk_29_method_69_0) rfl ?_
    show Steps p.tables e below (s₁.setTop (mkF m 1 #[.val (.int (1 : Int32)), .val (.int (1 : Int32))] [(.int (1 : Int32))])) tgt
    refine XS.iloadN X0.here hx rfl (hb hby dd_jdk_29_method_69_1) rfl ?_
    show Steps p.tables e below (s₁.setTop (mkF m 2 #[.val (.int (1 : Int32)), .val (.int (1 : Int32))] [(.int (1 : Int32)), (.int (1 : Int32))])) tgt
    refine XS.icmpNo X0.here hx rfl (hb hby dd_jdk_29_method_69_2) rfl (flt (by decide : ¬ ((1 : Int32) < (1 : Int32)))).2.2.1 ?_
    show Steps p.tables e below (s₁.setTop (mkF m 5 #[.val (.int (1 : Int32)), .val (.int (1 : Int32))] [])) tgt
    refine XS.iloadN X0.here hx rfl (hb hby dd_jdk_29_method_69_5) rfl ?_
    show Steps p.tables e below (s₁.setTop (mkF m 6 #[.val (.int (1 : Int32)), .val (.int (1 : Int32))] [(.int (1 : Int32))])) tgt
    refine XS.goto X0.here hx rfl (pc0 := 6) (pc' := 10) rfl (hb hby dd_jdk_29_method_69_6) (by decide) (by decide) ?_
    exact kgo
  refine own_leave X0 hlk (v := some (.int (1 : Int32))) (fun h => by rw [Bd.returns] at h; cases h) (fun fs hr => retI X0 hx Bd.returns (hb hby dd_jdk_29_method_69_10) hr) (by decide) (by decide) ?_
  show Q_min1 Z  h0 n0 _ s₁.heap _
  rw [e0]
  exact ⟨rfl, N0, rfl⟩
theorem ef_ioc1 (m : MethodId) (x0 : Addr) (x1 : Int32) : entryFrame m #[(.ref x0), (.int x1), (.int (0 : Int32)), (.int (1 : Int32))] 6 = mkF m 0 #[.val (.ref x0), .val (.int x1), .val (.int (0 : Int32)), .val (.int (1 : Int32)), .unset, .unset] [] := by first | (simp [entryFrame, mkF, argsToLocals, Value.category]; done) | rfl
def Q_ioc1 (Z : State) (t : Addr) (k : ClassId) (q : Int32) (c0 : Int32) (h0 : Heap) (n0 : Nat) (v : Option Value) (h : Heap) (L : List Loc) : Prop := ∃ (r : Int32), v = some (.int r) ∧ Fr n0 L ∧ h = h0 ∧ (((q = c0) ∧ ¬ r < 0) ∨ (¬ (q = c0) ∧ r < 0))
theorem dd_jdk_43_method_23_0 : decode jdk_43_method_23_code 0 = .ok (.iload_n 1, 1) := by decide +kernel
theorem dd_jdk_43_method_23_1 : decode jdk_43_method_23_code 1 = .ok (.i2b, 1) := by decide +kernel
theorem dd_jdk_43_method_23_2 : decode jdk_43_method_23_code 2 = .ok (.istore 4, 2) := by decide +kernel
theorem dd_jdk_43_method_23_4 : decode jdk_43_method_23_code 4 = .ok (.iload_n 2, 1) := by decide +kernel
theorem dd_jdk_43_method_23_5 : decode jdk_43_method_23_code 5 = .ok (.istore 5, 2) := by decide +kernel
theorem dd_jdk_43_method_23_7 : decode jdk_43_method_23_code 7 = .ok (.iload 5, 2) := by decide +kernel
theorem dd_jdk_43_method_23_9 : decode jdk_43_method_23_code 9 = .ok (.iload_n 3, 1) := by decide +kernel
theorem dd_jdk_43_method_23_10 : decode jdk_43_method_23_code 10 = .ok (.if_icmp .ge 21, 3) := by decide +kernel
theorem dd_jdk_43_method_23_13 : decode jdk_43_method_23_code 13 = .ok (.aload_n 0, 1) := by decide +kernel
theorem dd_jdk_43_method_23_14 : decode jdk_43_method_23_code 14 = .ok (.iload 5, 2) := by decide +kernel
theorem dd_jdk_43_method_23_16 : decode jdk_43_method_23_code 16 = .ok (.baload, 1) := by decide +kernel
theorem dd_jdk_43_method_23_17 : decode jdk_43_method_23_code 17 = .ok (.iload 4, 2) := by decide +kernel
theorem dd_jdk_43_method_23_19 : decode jdk_43_method_23_code 19 = .ok (.if_icmp .ne 6, 3) := by decide +kernel
theorem dd_jdk_43_method_23_22 : decode jdk_43_method_23_code 22 = .ok (.iload 5, 2) := by decide +kernel
theorem dd_jdk_43_method_23_24 : decode jdk_43_method_23_code 24 = .ok (.ireturn, 1) := by decide +kernel
theorem dd_jdk_43_method_23_25 : decode jdk_43_method_23_code 25 = .ok (.iinc 5 1, 3) := by decide +kernel
theorem dd_jdk_43_method_23_28 : decode jdk_43_method_23_code 28 = .ok (.goto (-21), 3) := by decide +kernel
theorem dd_jdk_43_method_23_31 : decode jdk_43_method_23_code 31 = .ok (.iconst (-1), 1) := by decide +kernel
theorem dd_jdk_43_method_23_32 : decode jdk_43_method_23_code 32 = .ok (.ireturn, 1) := by decide +kernel
set_option maxRecDepth 65536 in
set_option maxHeartbeats 40000000 in
theorem rm_ioc1 (l : Launch) (Z : State) (a0 : Array Value) (hw : ∀ d ∈ tables_1, d.before a0 Z = true) (ws : List Jvm.Cond) (wG1 : Int32) (wO2 : Sta Z Z.heap "java/lang/String" "COMPACT_STRINGS" "Z" (.int wG1)) (wP5 : ¬ (wG1 = (0 : Int32))) (wG3 : Value) (wO4 : Sta Z Z.heap "jdk/internal/util/Preconditions" "SIOOBE_FORMATTER" "Ljava/util/function/BiFunction;" wG3) (wrG3 : wG3.isRef = true) (hstr : ∀ a ∈ Bundle.stringAtoms, a.before a0 Z = true) (hEL : EW Z a0 consts_1) (h0 : Heap) (n0 : Nat) (X00 : Old Z n0 h0) (t : Addr) (k : ClassId) (q : Int32) (c0 : Int32) (f0 : Arv Z h0 t k .byte (1 : Int32) ((([c0] : List Int32).map (fun c => c.toInt8.toInt32)).map Value.int) (.int (0 : Int32))) (hq : ¬ q < 0 ∧ ¬ (255 : Int32) < q) (hc0 : ¬ c0 < 0 ∧ ¬ (255 : Int32) < c0) :
    MetFree l (⟨"java/lang/StringLatin1", "indexOfChar", "([BIII)I"⟩ : MethodName) (head1 (Jvm.Cond.code (⟨"java/lang/StringLatin1", "indexOfChar", "([BIII)I"⟩ : MethodName) jdk_43_method_23_code 6 (some .int) :: ws) ({ frames := 0, cells := 0, slots := 0, locals := 0 } : Room)) (fun a U => a = #[(.ref t), (.int q), (.int (0 : Int32)), (.int (1 : Int32))] ∧ Z.Warmed39 U.vm ∧ U.heap = h0) (fun _ _ _ _ _ => True) (fun _ U o U' => ∃ v L, o = .returned v ∧ Q_ioc1 Z t k q c0 h0 n0 v U'.heap L ∧ FrameEnd U o U' L ({ frames := 0, cells := 0, slots := 0, locals := 0 } : Room).cells ({ frames := 0, cells := 0, slots := 0, locals := 0 } : Room).slots) := by
  refine MetFree.of_bodySF (plainFor_of_name pn_54843740) hisR ?_
  intro p e s m args below meth c s₁ Bd hml0 hP hK
  obtain ⟨rfl, hZ, hh⟩ := hP
  have hx := Bd.exec
  have hby := Bd.bytes
  have hlk := Bd.notSynchronized
  have hml : c.maxLocals = 6 := hml0
  have hown : s.vm.findClass "java/lang/StringLatin1" = some m.cls := findClass_of_methodNamed Bd.named
  have hnm := (name_of_methodNamed Bd.named Bd.method).1
  have X0 : Stand p l e ({ frames := 0, cells := 0, slots := 0, locals := 0 } : Room) s m #[(.ref t), (.int q), (.int (0 : Int32)), (.int (1 : Int32))] below meth c s₁ [] 0 0 := Stand.of_body Bd
  have e0 : s₁.heap = h0 := by rw [← hh, Bd.state]; rfl
  have N0 := Fr.nil n0
  have Z0 : n0 ≤ h0.size := X00.1 ▸ X00.2.1
  have K0 : Keep h0 h0 ([] : List Addr) := Keep.refl _ _
  show OwnGoes p e below (fun o U' => ∃ v L, o = .returned v ∧ Q_ioc1 Z t k q c0 h0 n0 v U'.heap L ∧ FrameEnd s o U' L ({ frames := 0, cells := 0, slots := 0, locals := 0 } : Room).cells ({ frames := 0, cells := 0, slots := 0, locals := 0 } : Room).slots) s₁ (entryFrame m #[(.ref t), (.int q), (.int (0 : Int32)), (.int (1 : Int32))] 6)
  refine OwnGoes.step (T' := s₁) (g' := (mkF m 0 #[.val (.ref t), .val (.int q), .val (.int (0 : Int32)), .val (.int (1 : Int32)), .unset, .unset] [])) (fun tgt kgo => castTop (ef_ioc1 m t q) kgo) ?_
  refine OwnGoes.step (T' := s₁) (g' := (mkF m 19 #[.val (.ref t), .val (.int q), .val (.int (0 : Int32)), .val (.int (1 : Int32)), .val (.int (nar .byte q)), .val (.int (0 : Int32))] [(.int (nar .byte q)), (.int (c0.toInt8.toInt32))])) (fun tgt kgo => ?_) ?_
  · show Steps p.tables e below (s₁.setTop (mkF m 0 #[.val (.ref t), .val (.int q), .val (.int (0 : Int32)), .val (.int (1 : Int32)), .unset, .unset] [])) tgt
    refine XS.iloadN X0.here hx rfl (hb hby dd_jdk_43_method_23_0) rfl ?_
    show Steps p.tables e below (s₁.setTop (mkF m 1 #[.val (.ref t), .val (.int q), .val (.int (0 : Int32)), .val (.int (1 : Int32)), .unset, .unset] [(.int q)])) tgt
    refine XS.i2b X0.here hx rfl (hb hby dd_jdk_43_method_23_1) rfl ?_
    show Steps p.tables e below (s₁.setTop (mkF m 2 #[.val (.ref t), .val (.int q), .val (.int (0 : Int32)), .val (.int (1 : Int32)), .unset, .unset] [(.int (nar .byte q))])) tgt
    refine XS.istore X0.here hx rfl (hb hby dd_jdk_43_method_23_2) rfl (l' := #[.val (.ref t), .val (.int q), .val (.int (0 : Int32)), .val (.int (1 : Int32)), .val (.int (nar .byte q)), .unset]) rfl ?_
    show Steps p.tables e below (s₁.setTop (mkF m 4 #[.val (.ref t), .val (.int q), .val (.int (0 : Int32)), .val (.int (1 : Int32)), .val (.int (nar .byte q)), .unset] [])) tgt
    refine XS.iloadN X0.here hx rfl (hb hby dd_jdk_43_method_23_4) rfl ?_
    show Steps p.tables e below (s₁.setTop (mkF m 5 #[.val (.ref t), .val (.int q), .val (.int (0 : Int32)), .val (.int (1 : Int32)), .val (.int (nar .byte q)), .unset] [(.int (0 : Int32))])) tgt
    refine XS.istore X0.here hx rfl (hb hby dd_jdk_43_method_23_5) rfl (l' := #[.val (.ref t), .val (.int q), .val (.int (0 : Int32)), .val (.int (1 : Int32)), .val (.int (nar .byte q)), .val (.int (0 : Int32))]) rfl ?_
    show Steps p.tables e below (s₁.setTop (mkF m 7 #[.val (.ref t), .val (.int q), .val (.int (0 : Int32)), .val (.int (1 : Int32)), .val (.int (nar .byte q)), .val (.int (0 : Int32))] [])) tgt
    refine XS.iload X0.here hx rfl (hb hby dd_jdk_43_method_23_7) rfl ?_
    show Steps p.tables e below (s₁.setTop (mkF m 9 #[.val (.ref t), .val (.int q), .val (.int (0 : Int32)), .val (.int (1 : Int32)), .val (.int (nar .byte q)), .val (.int (0 : Int32))] [(.int (0 : Int32))])) tgt
    refine XS.iloadN X0.here hx rfl (hb hby dd_jdk_43_method_23_9) rfl ?_
    show Steps p.tables e below (s₁.setTop (mkF m 10 #[.val (.ref t), .val (.int q), .val (.int (0 : Int32)), .val (.int (1 : Int32)), .val (.int (nar .byte q)), .val (.int (0 : Int32))] [(.int (1 : Int32)), (.int (0 : Int32))])) tgt
    refine XS.icmpNo X0.here hx rfl (hb hby dd_jdk_43_method_23_10) rfl (tlt (by decide : (0 : Int32) < (1 : Int32))).2.1 ?_
    show Steps p.tables e below (s₁.setTop (mkF m 13 #[.val (.ref t), .val (.int q), .val (.int (0 : Int32)), .val (.int (1 : Int32)), .val (.int (nar .byte q)), .val (.int (0 : Int32))] [])) tgt
    refine XS.aloadN X0.here hx rfl (hb hby dd_jdk_43_method_23_13) rfl rfl ?_
    show Steps p.tables e below (s₁.setTop (mkF m 14 #[.val (.ref t), .val (.int q), .val (.int (0 : Int32)), .val (.int (1 : Int32)), .val (.int (nar .byte q)), .val (.int (0 : Int32))] [(.ref t)])) tgt
    refine XS.iload X0.here hx rfl (hb hby dd_jdk_43_method_23_14) rfl ?_
    show Steps p.tables e below (s₁.setTop (mkF m 16 #[.val (.ref t), .val (.int q), .val (.int (0 : Int32)), .val (.int (1 : Int32)), .val (.int (nar .byte q)), .val (.int (0 : Int32))] [(.int (0 : Int32)), (.ref t)])) tgt
    obtain ⟨cl1, Ar1, q1, S1, M1, H1, G1⟩ := f0
    refine X0.baloadBytes hx (j := (0 : Int32)) (v := (.int (c0.toInt8.toInt32))) (by rw [e0]; exact Ar1.1) (State.isArrayOf_alike hZ.alike Ar1.2.1) Ar1.2.2 (inb_of S1 ⟨by decide, by decide⟩) (Has.at H1 (inb_of S1 ⟨by decide, by decide⟩) rfl) (g := (mkF m 16 #[.val (.ref t), .val (.int q), .val (.int (0 : Int32)), .val (.int (1 : Int32)), .val (.int (nar .byte q)), .val (.int (0 : Int32))] [(.int (0 : Int32)), (.ref t)])) rfl rfl (hb hby dd_jdk_43_method_23_16) _ ?_
    show Steps p.tables e below (s₁.setTop (mkF m 17 #[.val (.ref t), .val (.int q), .val (.int (0 : Int32)), .val (.int (1 : Int32)), .val (.int (nar .byte q)), .val (.int (0 : Int32))] [(.int (c0.toInt8.toInt32))])) tgt
    refine XS.iload X0.here hx rfl (hb hby dd_jdk_43_method_23_17) rfl ?_
    exact kgo
  by_cases cc2 : (c0.toInt8.toInt32) = (nar .byte q)
  · skip
    refine OwnGoes.step (T' := s₁) (g' := (mkF m 24 #[.val (.ref t), .val (.int q), .val (.int (0 : Int32)), .val (.int (1 : Int32)), .val (.int (nar .byte q)), .val (.int (0 : Int32))] [(.int (0 : Int32))])) (fun tgt kgo => ?_) ?_
    · show Steps p.tables e below (s₁.setTop (mkF m 19 #[.val (.ref t), .val (.int q), .val (.int (0 : Int32)), .val (.int (1 : Int32)), .val (.int (nar .byte q)), .val (.int (0 : Int32))] [(.int (nar .byte q)), (.int (c0.toInt8.toInt32))])) tgt
      refine XS.icmpNo X0.here hx rfl (hb hby dd_jdk_43_method_23_19) rfl (teq cc2).2 ?_
      show Steps p.tables e below (s₁.setTop (mkF m 22 #[.val (.ref t), .val (.int q), .val (.int (0 : Int32)), .val (.int (1 : Int32)), .val (.int (nar .byte q)), .val (.int (0 : Int32))] [])) tgt
      refine XS.iload X0.here hx rfl (hb hby dd_jdk_43_method_23_22) rfl ?_
      exact kgo
    refine own_leave X0 hlk (v := some (.int (0 : Int32))) (fun h => by rw [Bd.returns] at h; cases h) (fun fs hr => retI X0 hx Bd.returns (hb hby dd_jdk_43_method_23_24) hr) (by decide) (by decide) ?_
    show Q_ioc1 Z t k q c0 h0 n0 _ s₁.heap _
    rw [e0]
    exact ⟨(0 : Int32), rfl, N0, rfl, (Or.inl ⟨((own_byte_inj hc0 hq).mp cc2), by decide⟩)⟩
  · skip
    refine OwnGoes.step (T' := s₁) (g' := (mkF m 32 #[.val (.ref t), .val (.int q), .val (.int (0 : Int32)), .val (.int (1 : Int32)), .val (.int (nar .byte q)), .val (.int (1 : Int32))] [(.int (-1 : Int32))])) (fun tgt kgo => ?_) ?_
    · show Steps p.tables e below (s₁.setTop (mkF m 19 #[.val (.ref t), .val (.int q), .val (.int (0 : Int32)), .val (.int (1 : Int32)), .val (.int (nar .byte q)), .val (.int (0 : Int32))] [(.int (nar .byte q)), (.int (c0.toInt8.toInt32))])) tgt
      refine XS.icmpYes X0.here hx rfl (pc0 := 19) (pc' := 25) rfl (hb hby dd_jdk_43_method_23_19) rfl (feq cc2).2 (by decide) (by decide) ?_
      show Steps p.tables e below (s₁.setTop (mkF m 25 #[.val (.ref t), .val (.int q), .val (.int (0 : Int32)), .val (.int (1 : Int32)), .val (.int (nar .byte q)), .val (.int (0 : Int32))] [])) tgt
      refine XS.iinc X0.here hx rfl (hb hby dd_jdk_43_method_23_25) rfl (l' := #[.val (.ref t), .val (.int q), .val (.int (0 : Int32)), .val (.int (1 : Int32)), .val (.int (nar .byte q)), .val (.int (1 : Int32))]) rfl ?_
      show Steps p.tables e below (s₁.setTop (mkF m 28 #[.val (.ref t), .val (.int q), .val (.int (0 : Int32)), .val (.int (1 : Int32)), .val (.int (nar .byte q)), .val (.int (1 : Int32))] [])) tgt
      refine XS.goto X0.here hx rfl (pc0 := 28) (pc' := 7) rfl (hb hby dd_jdk_43_method_23_28) (by decide) (by decide) ?_
      show Steps p.tables e below (s₁.setTop (mkF m 7 #[.val (.ref t), .val (.int q), .val (.int (0 : Int32)), .val (.int (1 : Int32)), .val (.int (nar .byte q)), .val (.int (1 : Int32))] [])) tgt
      refine XS.iload X0.here hx rfl (hb hby dd_jdk_43_method_23_7) rfl ?_
      show Steps p.tables e below (s₁.setTop (mkF m 9 #[.val (.ref t), .val (.int q), .val (.int (0 : Int32)), .val (.int (1 : Int32)), .val (.int (nar .byte q)), .val (.int (1 : Int32))] [(.int (1 : Int32))])) tgt
      refine XS.iloadN X0.here hx rfl (hb hby dd_jdk_43_method_23_9) rfl ?_
      show Steps p.tables e below (s₁.setTop (mkF m 10 #[.val (.ref t), .val (.int q), .val (.int (0 : Int32)), .val (.int (1 : Int32)), .val (.int (nar .byte q)), .val (.int (1 : Int32))] [(.int (1 : Int32)), (.int (1 : Int32))])) tgt
      refine XS.icmpYes X0.here hx rfl (pc0 := 10) (pc' := 31) rfl (hb hby dd_jdk_43_method_23_10) rfl (flt (by decide : ¬ ((1 : Int32) < (1 : Int32)))).2.1 (by decide) (by decide) ?_
      show Steps p.tables e below (s₁.setTop (mkF m 31 #[.val (.ref t), .val (.int q), .val (.int (0 : Int32)), .val (.int (1 : Int32)), .val (.int (nar .byte q)), .val (.int (1 : Int32))] [])) tgt
      refine XS.iconst X0.here hx rfl (hb hby dd_jdk_43_method_23_31) ?_
      exact kgo
    have hno : ¬ (q = c0) := by
      rintro (hz)
      · exact cc2 ((own_byte_inj hc0 hq).mpr hz)
    refine own_leave X0 hlk (v := some (.int (-1 : Int32))) (fun h => by rw [Bd.returns] at h; cases h) (fun fs hr => retI X0 hx Bd.returns (hb hby dd_jdk_43_method_23_32) hr) (by decide) (by decide) ?_
    show Q_ioc1 Z t k q c0 h0 n0 _ s₁.heap _
    rw [e0]
    exact ⟨(-1 : Int32), rfl, N0, rfl, (Or.inr ⟨hno, by decide⟩)⟩
theorem ef_iol1 (m : MethodId) (x0 : Addr) (x1 : Int32) : entryFrame m #[(.ref x0), (.int x1), (.int (0 : Int32)), (.int (1 : Int32))] 4 = mkF m 0 #[.val (.ref x0), .val (.int x1), .val (.int (0 : Int32)), .val (.int (1 : Int32))] [] := by first | (simp [entryFrame, mkF, argsToLocals, Value.category]; done) | rfl
def Q_iol1 (Z : State) (t : Addr) (k : ClassId) (q : Int32) (c0 : Int32) (h0 : Heap) (n0 : Nat) (v : Option Value) (h : Heap) (L : List Loc) : Prop := ∃ (r : Int32), v = some (.int r) ∧ Fr n0 L ∧ h = h0 ∧ (((q = c0) ∧ ¬ r < 0) ∨ (¬ (q = c0) ∧ r < 0))
theorem dd_jdk_43_method_22_29 : decode jdk_43_method_22_code 29 = .ok (.aload_n 0, 1) := by decide +kernel
theorem dd_jdk_43_method_22_30 : decode jdk_43_method_22_code 30 = .ok (.iload_n 1, 1) := by decide +kernel
theorem dd_jdk_43_method_22_31 : decode jdk_43_method_22_code 31 = .ok (.iload_n 2, 1) := by decide +kernel
theorem dd_jdk_43_method_22_32 : decode jdk_43_method_22_code 32 = .ok (.iload_n 3, 1) := by decide +kernel
theorem dd_jdk_43_method_22_33 : decode jdk_43_method_22_code 33 = .ok (.invokestatic 95, 3) := by decide +kernel
theorem dd_jdk_43_method_22_36 : decode jdk_43_method_22_code 36 = .ok (.ireturn, 1) := by decide +kernel
set_option maxRecDepth 65536 in
set_option maxHeartbeats 40000000 in
theorem rm_iol1 (l : Launch) (Z : State) (a0 : Array Value) (hw : ∀ d ∈ tables_1, d.before a0 Z = true) (ws : List Jvm.Cond) (wG1 : Int32) (wO2 : Sta Z Z.heap "java/lang/String" "COMPACT_STRINGS" "Z" (.int wG1)) (wP5 : ¬ (wG1 = (0 : Int32))) (wG3 : Value) (wO4 : Sta Z Z.heap "jdk/internal/util/Preconditions" "SIOOBE_FORMATTER" "Ljava/util/function/BiFunction;" wG3) (wrG3 : wG3.isRef = true) (hstr : ∀ a ∈ Bundle.stringAtoms, a.before a0 Z = true) (hEL : EW Z a0 consts_1) (h0 : Heap) (n0 : Nat) (X00 : Old Z n0 h0) (t : Addr) (k : ClassId) (q : Int32) (c0 : Int32) (f0 : Arv Z h0 t k .byte (1 : Int32) ((([c0] : List Int32).map (fun c => c.toInt8.toInt32)).map Value.int) (.int (0 : Int32))) (hq : ¬ q < 0 ∧ ¬ (255 : Int32) < q) (hc0 : ¬ c0 < 0 ∧ ¬ (255 : Int32) < c0) :
    MetFree l (⟨"java/lang/StringLatin1", "indexOf", "([BIII)I"⟩ : MethodName) (head1 (Jvm.Cond.code (⟨"java/lang/StringLatin1", "indexOf", "([BIII)I"⟩ : MethodName) jdk_43_method_22_code 4 (some .int) :: ws) ({ frames := 1, cells := 0, slots := 0, locals := 17 } : Room)) (fun a U => a = #[(.ref t), (.int q), (.int (0 : Int32)), (.int (1 : Int32))] ∧ Z.Warmed39 U.vm ∧ U.heap = h0) (fun _ _ _ _ _ => True) (fun _ U o U' => ∃ v L, o = .returned v ∧ Q_iol1 Z t k q c0 h0 n0 v U'.heap L ∧ FrameEnd U o U' L ({ frames := 1, cells := 0, slots := 0, locals := 17 } : Room).cells ({ frames := 1, cells := 0, slots := 0, locals := 17 } : Room).slots) := by
  refine MetFree.of_bodySF (plainFor_of_name pn_54843740) hisR ?_
  intro p e s m args below meth c s₁ Bd hml0 hP hK
  obtain ⟨rfl, hZ, hh⟩ := hP
  have hx := Bd.exec
  have hby := Bd.bytes
  have hlk := Bd.notSynchronized
  have hml : c.maxLocals = 4 := hml0
  have hown : s.vm.findClass "java/lang/StringLatin1" = some m.cls := findClass_of_methodNamed Bd.named
  have hnm := (name_of_methodNamed Bd.named Bd.method).1
  have X0 : Stand p l e ({ frames := 1, cells := 0, slots := 0, locals := 17 } : Room) s m #[(.ref t), (.int q), (.int (0 : Int32)), (.int (1 : Int32))] below meth c s₁ [] 0 0 := Stand.of_body Bd
  have e0 : s₁.heap = h0 := by rw [← hh, Bd.state]; rfl
  have N0 := Fr.nil n0
  have Z0 : n0 ≤ h0.size := X00.1 ▸ X00.2.1
  have K0 : Keep h0 h0 ([] : List Addr) := Keep.refl _ _
  show OwnGoes p e below (fun o U' => ∃ v L, o = .returned v ∧ Q_iol1 Z t k q c0 h0 n0 v U'.heap L ∧ FrameEnd s o U' L ({ frames := 1, cells := 0, slots := 0, locals := 17 } : Room).cells ({ frames := 1, cells := 0, slots := 0, locals := 17 } : Room).slots) s₁ (entryFrame m #[(.ref t), (.int q), (.int (0 : Int32)), (.int (1 : Int32))] 4)
  refine OwnGoes.step (T' := s₁) (g' := (mkF m 0 #[.val (.ref t), .val (.int q), .val (.int (0 : Int32)), .val (.int (1 : Int32))] [])) (fun tgt kgo => castTop (ef_iol1 m t q) kgo) ?_
  refine OwnGoes.step (T' := s₁) (g' := (mkF m 1 #[.val (.ref t), .val (.int q), .val (.int (0 : Int32)), .val (.int (1 : Int32))] [(.int q)])) (fun tgt kgo => ?_) ?_
  · show Steps p.tables e below (s₁.setTop (mkF m 0 #[.val (.ref t), .val (.int q), .val (.int (0 : Int32)), .val (.int (1 : Int32))] [])) tgt
    refine XS.iloadN X0.here hx rfl (hb hby dd_jdk_43_method_22_0) rfl ?_
    exact kgo
  obtain ⟨_, _, ⟨T1, L1, k1, n1⟩, -, X1, ⟨Lc1, hQ1, l1, y1, z1⟩, st1⟩ := Jvm.LawKit.callS X0 hx (y := (⟨"java/lang/StringLatin1", "canEncode", "(I)Z"⟩ : MethodName)) hown (mvT hZ (hw _ (List.mem_of_getElem? (i := 111) rfl))) (mvT hZ (hw _ (List.mem_of_getElem? (i := 112) rfl))) (mvT hZ (hw _ (List.mem_of_getElem? (i := 39) rfl))) (mvT hZ (hw _ (List.mem_of_getElem? (i := 113) rfl))) (by decide) (backOf (W := 0) (rm_cei l Z a0 hw [] wG1 wO2 wP5 wG3 wO4 wrG3 hstr hEL h0 n0 X00 q hq) hZ (hw _ (List.mem_of_getElem? (i := 113) rfl)) (hw _ (List.mem_of_getElem? (i := 39) rfl)) (by decide) (by decide)) (g := (mkF m 1 #[.val (.ref t), .val (.int q), .val (.int (0 : Int32)), .val (.int (1 : Int32))] [(.int q)])) rfl (by rw [hml]; rfl) (argsL := [(.int q)]) (rest := []) (lenOf pd_1097859 rfl) rfl (by show 2 * 0 + _ ≤ _; exact Nat.le_of_eq rfl) (hb hby dd_jdk_43_method_22_1) (fun _ _ => ⟨rfl, e0, (by decide : 0 + 0 ≤ _), (by decide : 0 + 0 ≤ _)⟩)
  dsimp only [Pt.U, Pt.locs, Pt.cells, Pt.slots] at X1 l1 y1 z1 st1 hQ1
  subst l1 y1 z1
  obtain ⟨rfl, Nq1, eq1⟩ := hQ1
  refine OwnGoes.step (T' := T1) (g' := (mkF m 4 #[.val (.ref t), .val (.int q), .val (.int (0 : Int32)), .val (.int (1 : Int32))] [(.int (1 : Int32))])) st1 ?_
  have N1 := Fr.app N0 Nq1
  refine OwnGoes.step (T' := T1) (g' := (mkF m 11 #[.val (.ref t), .val (.int q), .val (.int (0 : Int32)), .val (.int (1 : Int32))] [(.int (0 : Int32)), (.int (0 : Int32))])) (fun tgt kgo => ?_) ?_
  · show Steps p.tables e below (T1.setTop (mkF m 4 #[.val (.ref t), .val (.int q), .val (.int (0 : Int32)), .val (.int (1 : Int32))] [(.int (1 : Int32))])) tgt
    refine XS.ifYes X1.here hx rfl (pc0 := 4) (pc' := 9) rfl (hb hby dd_jdk_43_method_22_4) rfl ((if0 _ _).trans (feq (by decide : ¬ ((1 : Int32) = (0 : Int32)))).2) (by decide) (by decide) ?_
    show Steps p.tables e below (T1.setTop (mkF m 9 #[.val (.ref t), .val (.int q), .val (.int (0 : Int32)), .val (.int (1 : Int32))] [])) tgt
    refine XS.iloadN X1.here hx rfl (hb hby dd_jdk_43_method_22_9) rfl ?_
    show Steps p.tables e below (T1.setTop (mkF m 10 #[.val (.ref t), .val (.int q), .val (.int (0 : Int32)), .val (.int (1 : Int32))] [(.int (0 : Int32))])) tgt
    refine XS.iconst X1.here hx rfl (hb hby dd_jdk_43_method_22_10) ?_
    exact kgo
  obtain ⟨_, _, ⟨T2, L2, k2, n2⟩, -, X2, ⟨Lc2, hQ2, l2, y2, z2⟩, st2⟩ := Jvm.LawKit.callS X1 hx (y := (⟨"java/lang/Math", "max", "(II)I"⟩ : MethodName)) hown (mvT hZ (hw _ (List.mem_of_getElem? (i := 114) rfl))) (mvT hZ (hw _ (List.mem_of_getElem? (i := 115) rfl))) (mvT hZ (hw _ (List.mem_of_getElem? (i := 116) rfl))) (mvT hZ (hw _ (List.mem_of_getElem? (i := 117) rfl))) (by decide) (backOf (W := 0) (rm_max0 l Z a0 hw [] wG1 wO2 wP5 wG3 wO4 wrG3 hstr hEL h0 n0 X00 ) hZ (hw _ (List.mem_of_getElem? (i := 117) rfl)) (hw _ (List.mem_of_getElem? (i := 116) rfl)) (by decide) (by decide)) (g := (mkF m 11 #[.val (.ref t), .val (.int q), .val (.int (0 : Int32)), .val (.int (1 : Int32))] [(.int (0 : Int32)), (.int (0 : Int32))])) rfl (by rw [hml]; rfl) (argsL := [(.int (0 : Int32)), (.int (0 : Int32))]) (rest := []) (lenOf pd_50523903 rfl) rfl (by show 2 * 0 + _ ≤ _; exact Nat.le_of_eq rfl) (hb hby dd_jdk_43_method_22_11) (fun _ _ => ⟨rfl, eq1, (by decide : 0 + 0 ≤ _), (by decide : 0 + 0 ≤ _)⟩)
  dsimp only [Pt.U, Pt.locs, Pt.cells, Pt.slots] at X2 l2 y2 z2 st2 hQ2
  subst l2 y2 z2
  obtain ⟨rfl, Nq2, eq2⟩ := hQ2
  refine OwnGoes.step (T' := T2) (g' := (mkF m 14 #[.val (.ref t), .val (.int q), .val (.int (0 : Int32)), .val (.int (1 : Int32))] [(.int (0 : Int32))])) st2 ?_
  have N2 := Fr.app N1 Nq2
  refine OwnGoes.step (T' := T2) (g' := (mkF m 18 #[.val (.ref t), .val (.int q), .val (.int (0 : Int32)), .val (.int (1 : Int32))] [(.int (1 : Int32)), (.int (1 : Int32))])) (fun tgt kgo => ?_) ?_
  · show Steps p.tables e below (T2.setTop (mkF m 14 #[.val (.ref t), .val (.int q), .val (.int (0 : Int32)), .val (.int (1 : Int32))] [(.int (0 : Int32))])) tgt
    refine XS.istoreN X2.here hx rfl (hb hby dd_jdk_43_method_22_14) rfl (l' := #[.val (.ref t), .val (.int q), .val (.int (0 : Int32)), .val (.int (1 : Int32))]) rfl ?_
    show Steps p.tables e below (T2.setTop (mkF m 15 #[.val (.ref t), .val (.int q), .val (.int (0 : Int32)), .val (.int (1 : Int32))] [])) tgt
    refine XS.iloadN X2.here hx rfl (hb hby dd_jdk_43_method_22_15) rfl ?_
    show Steps p.tables e below (T2.setTop (mkF m 16 #[.val (.ref t), .val (.int q), .val (.int (0 : Int32)), .val (.int (1 : Int32))] [(.int (1 : Int32))])) tgt
    refine XS.aloadN X2.here hx rfl (hb hby dd_jdk_43_method_22_16) rfl rfl ?_
    show Steps p.tables e below (T2.setTop (mkF m 17 #[.val (.ref t), .val (.int q), .val (.int (0 : Int32)), .val (.int (1 : Int32))] [(.ref t), (.int (1 : Int32))])) tgt
    obtain ⟨cl3, Ar3, q3, S3, M3, -, -⟩ := f0
    refine X2.arraylength hx (by rw [eq2]; exact Ar3.1) (State.isArrayOf_alike hZ.alike Ar3.2.1) (g := (mkF m 17 #[.val (.ref t), .val (.int q), .val (.int (0 : Int32)), .val (.int (1 : Int32))] [(.ref t), (.int (1 : Int32))])) rfl rfl (hb hby dd_jdk_43_method_22_17) _ ?_
    rw [len_of S3 M3]
    exact kgo
  obtain ⟨_, _, ⟨T4, L4, k4, n4⟩, -, X4, ⟨Lc4, hQ4, l4, y4, z4⟩, st4⟩ := Jvm.LawKit.callS X2 hx (y := (⟨"java/lang/Math", "min", "(II)I"⟩ : MethodName)) hown (mvT hZ (hw _ (List.mem_of_getElem? (i := 118) rfl))) (mvT hZ (hw _ (List.mem_of_getElem? (i := 119) rfl))) (mvT hZ (hw _ (List.mem_of_getElem? (i := 116) rfl))) (mvT hZ (hw _ (List.mem_of_getElem? (i := 120) rfl))) (by decide) (backOf (W := 0) (rm_min1 l Z a0 hw [] wG1 wO2 wP5 wG3 wO4 wrG3 hstr hEL h0 n0 X00 ) hZ (hw _ (List.mem_of_getElem? (i := 120) rfl)) (hw _ (List.mem_of_getElem? (i := 116) rfl)) (by decide) (by decide)) (g := (mkF m 18 #[.val (.ref t), .val (.int q), .val (.int (0 : Int32)), .val (.int (1 : Int32))] [(.int (1 : Int32)), (.int (1 : Int32))])) rfl (by rw [hml]; rfl) (argsL := [(.int (1 : Int32)), (.int (1 : Int32))]) (rest := []) (lenOf pd_50523903 rfl) rfl (by show 2 * 0 + _ ≤ _; exact Nat.le_of_eq rfl) (hb hby dd_jdk_43_method_22_18) (fun _ _ => ⟨rfl, eq2, (by decide : 0 + 0 ≤ _), (by decide : 0 + 0 ≤ _)⟩)
  dsimp only [Pt.U, Pt.locs, Pt.cells, Pt.slots] at X4 l4 y4 z4 st4 hQ4
  subst l4 y4 z4
  obtain ⟨rfl, Nq4, eq4⟩ := hQ4
  refine OwnGoes.step (T' := T4) (g' := (mkF m 21 #[.val (.ref t), .val (.int q), .val (.int (0 : Int32)), .val (.int (1 : Int32))] [(.int (1 : Int32))])) st4 ?_
  have N4 := Fr.app N2 Nq4
  refine OwnGoes.step (T' := T4) (g' := (mkF m 33 #[.val (.ref t), .val (.int q), .val (.int (0 : Int32)), .val (.int (1 : Int32))] [(.int (1 : Int32)), (.int (0 : Int32)), (.int q), (.ref t)])) (fun tgt kgo => ?_) ?_
  · show Steps p.tables e below (T4.setTop (mkF m 21 #[.val (.ref t), .val (.int q), .val (.int (0 : Int32)), .val (.int (1 : Int32))] [(.int (1 : Int32))])) tgt
    refine XS.istoreN X4.here hx rfl (hb hby dd_jdk_43_method_22_21) rfl (l' := #[.val (.ref t), .val (.int q), .val (.int (0 : Int32)), .val (.int (1 : Int32))]) rfl ?_
    show Steps p.tables e below (T4.setTop (mkF m 22 #[.val (.ref t), .val (.int q), .val (.int (0 : Int32)), .val (.int (1 : Int32))] [])) tgt
    refine XS.iloadN X4.here hx rfl (hb hby dd_jdk_43_method_22_22) rfl ?_
    show Steps p.tables e below (T4.setTop (mkF m 23 #[.val (.ref t), .val (.int q), .val (.int (0 : Int32)), .val (.int (1 : Int32))] [(.int (0 : Int32))])) tgt
    refine XS.iloadN X4.here hx rfl (hb hby dd_jdk_43_method_22_23) rfl ?_
    show Steps p.tables e below (T4.setTop (mkF m 24 #[.val (.ref t), .val (.int q), .val (.int (0 : Int32)), .val (.int (1 : Int32))] [(.int (1 : Int32)), (.int (0 : Int32))])) tgt
    refine XS.icmpYes X4.here hx rfl (pc0 := 24) (pc' := 29) rfl (hb hby dd_jdk_43_method_22_24) rfl (tlt (by decide : (0 : Int32) < (1 : Int32))).1 (by decide) (by decide) ?_
    show Steps p.tables e below (T4.setTop (mkF m 29 #[.val (.ref t), .val (.int q), .val (.int (0 : Int32)), .val (.int (1 : Int32))] [])) tgt
    refine XS.aloadN X4.here hx rfl (hb hby dd_jdk_43_method_22_29) rfl rfl ?_
    show Steps p.tables e below (T4.setTop (mkF m 30 #[.val (.ref t), .val (.int q), .val (.int (0 : Int32)), .val (.int (1 : Int32))] [(.ref t)])) tgt
    refine XS.iloadN X4.here hx rfl (hb hby dd_jdk_43_method_22_30) rfl ?_
    show Steps p.tables e below (T4.setTop (mkF m 31 #[.val (.ref t), .val (.int q), .val (.int (0 : Int32)), .val (.int (1 : Int32))] [(.int q), (.ref t)])) tgt
    refine XS.iloadN X4.here hx rfl (hb hby dd_jdk_43_method_22_31) rfl ?_
    show Steps p.tables e below (T4.setTop (mkF m 32 #[.val (.ref t), .val (.int q), .val (.int (0 : Int32)), .val (.int (1 : Int32))] [(.int (0 : Int32)), (.int q), (.ref t)])) tgt
    refine XS.iloadN X4.here hx rfl (hb hby dd_jdk_43_method_22_32) rfl ?_
    exact kgo
  obtain ⟨_, _, ⟨T5, L5, k5, n5⟩, -, X5, ⟨Lc5, hQ5, l5, y5, z5⟩, st5⟩ := Jvm.LawKit.callS X4 hx (y := (⟨"java/lang/StringLatin1", "indexOfChar", "([BIII)I"⟩ : MethodName)) hown (mvT hZ (hw _ (List.mem_of_getElem? (i := 121) rfl))) (mvT hZ (hw _ (List.mem_of_getElem? (i := 122) rfl))) (mvT hZ (hw _ (List.mem_of_getElem? (i := 39) rfl))) (mvT hZ (hw _ (List.mem_of_getElem? (i := 123) rfl))) (by decide) (backOf (W := 0) (rm_ioc1 l Z a0 hw [] wG1 wO2 wP5 wG3 wO4 wrG3 hstr hEL h0 n0 X00 t k q c0 f0 hq hc0) hZ (hw _ (List.mem_of_getElem? (i := 123) rfl)) (hw _ (List.mem_of_getElem? (i := 39) rfl)) (by decide) (by decide)) (g := (mkF m 33 #[.val (.ref t), .val (.int q), .val (.int (0 : Int32)), .val (.int (1 : Int32))] [(.int (1 : Int32)), (.int (0 : Int32)), (.int q), (.ref t)])) rfl (by rw [hml]; rfl) (argsL := [(.ref t), (.int q), (.int (0 : Int32)), (.int (1 : Int32))]) (rest := []) (lenOf pd_68989375 rfl) rfl (by show 2 * 0 + _ ≤ _; exact Nat.le_of_eq rfl) (hb hby dd_jdk_43_method_22_33) (fun _ _ => ⟨rfl, eq4, (by decide : 0 + 0 ≤ _), (by decide : 0 + 0 ≤ _)⟩)
  dsimp only [Pt.U, Pt.locs, Pt.cells, Pt.slots] at X5 l5 y5 z5 st5 hQ5
  subst l5 y5 z5
  obtain ⟨r_5, rfl, Nq5, eq5, pq5_0⟩ := hQ5
  refine OwnGoes.step (T' := T5) (g' := (mkF m 36 #[.val (.ref t), .val (.int q), .val (.int (0 : Int32)), .val (.int (1 : Int32))] [(.int r_5)])) st5 ?_
  have N5 := Fr.app N4 Nq5
  refine own_leave X5 hlk (v := some (.int r_5)) (fun h => by rw [Bd.returns] at h; cases h) (fun fs hr => retI X5 hx Bd.returns (hb hby dd_jdk_43_method_22_36) hr) (by decide) (by decide) ?_
  show Q_iol1 Z t k q c0 h0 n0 _ T5.heap _
  rw [eq5]
  exact ⟨r_5, rfl, N5, rfl, pq5_0⟩
theorem ef_io2_1 (m : MethodId) (x0 : Addr) (x1 : Int32) : entryFrame m #[(.ref x0), (.int x1), (.int (0 : Int32))] 3 = mkF m 0 #[.val (.ref x0), .val (.int x1), .val (.int (0 : Int32))] [] := by first | (simp [entryFrame, mkF, argsToLocals, Value.category]; done) | rfl
def Q_io2_1 (Z : State) (a1 : Addr) (t : Addr) (k : ClassId) (q : Int32) (c0 : Int32) (h0 : Heap) (n0 : Nat) (v : Option Value) (h : Heap) (L : List Loc) : Prop := ∃ (r : Int32), v = some (.int r) ∧ Fr n0 L ∧ h = h0 ∧ (((q = c0) ∧ ¬ r < 0) ∨ (¬ (q = c0) ∧ r < 0))
set_option maxRecDepth 65536 in
set_option maxHeartbeats 40000000 in
theorem rm_io2_1 (l : Launch) (Z : State) (a0 : Array Value) (hw : ∀ d ∈ tables_1, d.before a0 Z = true) (ws : List Jvm.Cond) (wG1 : Int32) (wO2 : Sta Z Z.heap "java/lang/String" "COMPACT_STRINGS" "Z" (.int wG1)) (wP5 : ¬ (wG1 = (0 : Int32))) (wG3 : Value) (wO4 : Sta Z Z.heap "jdk/internal/util/Preconditions" "SIOOBE_FORMATTER" "Ljava/util/function/BiFunction;" wG3) (wrG3 : wG3.isRef = true) (hstr : ∀ a ∈ Bundle.stringAtoms, a.before a0 Z = true) (hEL : EW Z a0 consts_1) (h0 : Heap) (n0 : Nat) (X00 : Old Z n0 h0) (a1 : Addr) (t : Addr) (k : ClassId) (q : Int32) (c0 : Int32) (f0 : Exa Z h0 a1 "java/lang/String") (f1 : Fld Z h0 a1 "java/lang/String" "value" "[B" (.ref t)) (f2 : Fld Z h0 a1 "java/lang/String" "coder" "B" (.int (0 : Int32))) (f3 : Arv Z h0 t k .byte (1 : Int32) ((([c0] : List Int32).map (fun c => c.toInt8.toInt32)).map Value.int) (.int (0 : Int32))) (hq : ¬ q < 0 ∧ ¬ (255 : Int32) < q) (hc0 : ¬ c0 < 0 ∧ ¬ (255 : Int32) < c0) :
    MetFree l (⟨"java/lang/String", "indexOf", "(II)I"⟩ : MethodName) (head1 (Jvm.Cond.code (⟨"java/lang/String", "indexOf", "(II)I"⟩ : MethodName) jdk_42_method_80_code 3 (some .int) :: ws) ({ frames := 2, cells := 0, slots := 0, locals := 32 } : Room)) (fun a U => a = #[(.ref a1), (.int q), (.int (0 : Int32))] ∧ Z.Warmed39 U.vm ∧ U.heap = h0) (fun _ _ _ _ _ => True) (fun _ U o U' => ∃ v L, o = .returned v ∧ Q_io2_1 Z a1 t k q c0 h0 n0 v U'.heap L ∧ FrameEnd U o U' L ({ frames := 2, cells := 0, slots := 0, locals := 32 } : Room).cells ({ frames := 2, cells := 0, slots := 0, locals := 32 } : Room).slots) := by
  refine MetFree.of_bodySF (plainFor_of_name pn_52039224) hisR ?_
  intro p e s m args below meth c s₁ Bd hml0 hP hK
  obtain ⟨rfl, hZ, hh⟩ := hP
  have hx := Bd.exec
  have hby := Bd.bytes
  have hlk := Bd.notSynchronized
  have hml : c.maxLocals = 3 := hml0
  have hown : s.vm.findClass "java/lang/String" = some m.cls := findClass_of_methodNamed Bd.named
  have hnm := (name_of_methodNamed Bd.named Bd.method).1
  have X0 : Stand p l e ({ frames := 2, cells := 0, slots := 0, locals := 32 } : Room) s m #[(.ref a1), (.int q), (.int (0 : Int32))] below meth c s₁ [] 0 0 := Stand.of_body Bd
  have e0 : s₁.heap = h0 := by rw [← hh, Bd.state]; rfl
  have N0 := Fr.nil n0
  have Z0 : n0 ≤ h0.size := X00.1 ▸ X00.2.1
  have K0 : Keep h0 h0 ([] : List Addr) := Keep.refl _ _
  show OwnGoes p e below (fun o U' => ∃ v L, o = .returned v ∧ Q_io2_1 Z a1 t k q c0 h0 n0 v U'.heap L ∧ FrameEnd s o U' L ({ frames := 2, cells := 0, slots := 0, locals := 32 } : Room).cells ({ frames := 2, cells := 0, slots := 0, locals := 32 } : Room).slots) s₁ (entryFrame m #[(.ref a1), (.int q), (.int (0 : Int32))] 3)
  refine OwnGoes.step (T' := s₁) (g' := (mkF m 0 #[.val (.ref a1), .val (.int q), .val (.int (0 : Int32))] [])) (fun tgt kgo => castTop (ef_io2_1 m a1 q) kgo) ?_
  refine OwnGoes.step (T' := s₁) (g' := (mkF m 1 #[.val (.ref a1), .val (.int q), .val (.int (0 : Int32))] [(.ref a1)])) (fun tgt kgo => ?_) ?_
  · show Steps p.tables e below (s₁.setTop (mkF m 0 #[.val (.ref a1), .val (.int q), .val (.int (0 : Int32))] [])) tgt
    refine XS.aloadN X0.here hx rfl (hb hby dd_jdk_42_method_80_0) rfl rfl ?_
    exact kgo
  obtain ⟨cq1, kq1, q1a, q1b, q1c⟩ := isOf (s := s) hZ e0 f0
  obtain ⟨_, _, ⟨T1, L1, k1, n1⟩, -, X1, ⟨Lc1, hQ1, l1, y1, z1⟩, st1⟩ := X0.virtualBack hx (y := (⟨"java/lang/String", "isLatin1", "()Z"⟩ : MethodName)) (z := (⟨"java/lang/String", "isLatin1", "()Z"⟩ : MethodName)) hown (mvT hZ (hw _ (List.mem_of_getElem? (i := 93) rfl))) (mvT hZ (hw _ (List.mem_of_getElem? (i := 94) rfl))) (notFace_of_selects (args := #[]) (mvT hZ (hw _ (List.mem_of_getElem? (i := 96) rfl)))) (mvT hZ (hw _ (List.mem_of_getElem? (i := 96) rfl))) (mvT hZ (hw _ (List.mem_of_getElem? (i := 95) rfl))) (by decide) (backOf (W := 0) (rm_isl l Z a0 hw [] wG1 wO2 wP5 wG3 wO4 wrG3 hstr hEL h0 n0 X00 a1 f2) hZ (hw _ (List.mem_of_getElem? (i := 97) rfl)) (hw _ (List.mem_of_getElem? (i := 6) rfl)) (by decide) (by decide)) q1a q1c (g := (mkF m 1 #[.val (.ref a1), .val (.int q), .val (.int (0 : Int32))] [(.ref a1)])) rfl (by rw [hml]; rfl) (Steps.refl _) (argsL := []) (rest := []) (lenOf pd_15861835 rfl) rfl (by show 2 * 0 + _ ≤ _; exact Nat.le_of_eq rfl) (hb hby dd_jdk_42_method_80_1) (fun _ _ => ⟨rfl, e0, (by decide : 0 + 0 ≤ _), (by decide : 0 + 0 ≤ _)⟩)
  dsimp only [Pt.U, Pt.locs, Pt.cells, Pt.slots] at X1 l1 y1 z1 st1 hQ1
  subst l1 y1 z1
  obtain ⟨rfl, Nq1, eq1⟩ := hQ1
  refine OwnGoes.tr (T' := T1) (g' := (mkF m 4 #[.val (.ref a1), .val (.int q), .val (.int (0 : Int32))] [(.int (1 : Int32))])) st1 ?_
  have N1 := Fr.app N0 Nq1
  refine OwnGoes.step (T' := T1) (g' := (mkF m 8 #[.val (.ref a1), .val (.int q), .val (.int (0 : Int32))] [(.ref a1)])) (fun tgt kgo => ?_) ?_
  · show Steps p.tables e below (T1.setTop (mkF m 4 #[.val (.ref a1), .val (.int q), .val (.int (0 : Int32))] [(.int (1 : Int32))])) tgt
    refine XS.ifNo X1.here hx rfl (hb hby dd_jdk_42_method_80_4) rfl ((if0 _ _).trans (feq (by decide : ¬ ((1 : Int32) = (0 : Int32)))).1) ?_
    show Steps p.tables e below (T1.setTop (mkF m 7 #[.val (.ref a1), .val (.int q), .val (.int (0 : Int32))] [])) tgt
    refine XS.aloadN X1.here hx rfl (hb hby dd_jdk_42_method_80_7) rfl rfl ?_
    exact kgo
  obtain ⟨T2, X2, e2, st2⟩ := getF X1 hx hZ hown (host := "") (Or.inl (hw _ (List.mem_of_getElem? (i := 32) rfl))) Via.refl eq1 f1 (g := (mkF m 8 #[.val (.ref a1), .val (.int q), .val (.int (0 : Int32))] [(.ref a1)])) rfl rfl (hb hby dd_jdk_42_method_80_8)
  refine OwnGoes.step (T' := T2) (g' := (mkF m 11 #[.val (.ref a1), .val (.int q), .val (.int (0 : Int32))] [(.ref t)])) st2 ?_
  refine OwnGoes.step (T' := T2) (g' := (mkF m 14 #[.val (.ref a1), .val (.int q), .val (.int (0 : Int32))] [(.ref a1), (.int (0 : Int32)), (.int q), (.ref t)])) (fun tgt kgo => ?_) ?_
  · show Steps p.tables e below (T2.setTop (mkF m 11 #[.val (.ref a1), .val (.int q), .val (.int (0 : Int32))] [(.ref t)])) tgt
    refine XS.iloadN X2.here hx rfl (hb hby dd_jdk_42_method_80_11) rfl ?_
    show Steps p.tables e below (T2.setTop (mkF m 12 #[.val (.ref a1), .val (.int q), .val (.int (0 : Int32))] [(.int q), (.ref t)])) tgt
    refine XS.iloadN X2.here hx rfl (hb hby dd_jdk_42_method_80_12) rfl ?_
    show Steps p.tables e below (T2.setTop (mkF m 13 #[.val (.ref a1), .val (.int q), .val (.int (0 : Int32))] [(.int (0 : Int32)), (.int q), (.ref t)])) tgt
    refine XS.aloadN X2.here hx rfl (hb hby dd_jdk_42_method_80_13) rfl rfl ?_
    exact kgo
  obtain ⟨cq3, kq3, q3a, q3b, q3c⟩ := isOf (s := s) hZ e2 f0
  obtain ⟨_, _, ⟨T3, L3, k3, n3⟩, -, X3, ⟨Lc3, hQ3, l3, y3, z3⟩, st3⟩ := X2.virtualBack hx (y := (⟨"java/lang/String", "length", "()I"⟩ : MethodName)) (z := (⟨"java/lang/String", "length", "()I"⟩ : MethodName)) hown (mvT hZ (hw _ (List.mem_of_getElem? (i := 98) rfl))) (mvT hZ (hw _ (List.mem_of_getElem? (i := 99) rfl))) (notFace_of_selects (args := #[]) (mvT hZ (hw _ (List.mem_of_getElem? (i := 101) rfl)))) (mvT hZ (hw _ (List.mem_of_getElem? (i := 101) rfl))) (mvT hZ (hw _ (List.mem_of_getElem? (i := 100) rfl))) (by decide) (backOf (W := 3) (rm_len1 l Z a0 hw [] wG1 wO2 wP5 wG3 wO4 wrG3 hstr hEL h0 n0 X00 a1 t k c0 f0 f1 f2 f3) hZ (hw _ (List.mem_of_getElem? (i := 102) rfl)) (hw _ (List.mem_of_getElem? (i := 6) rfl)) (by decide) (by decide)) q3a q3c (g := (mkF m 14 #[.val (.ref a1), .val (.int q), .val (.int (0 : Int32))] [(.ref a1), (.int (0 : Int32)), (.int q), (.ref t)])) rfl (by rw [hml]; rfl) (Steps.refl _) (argsL := []) (rest := [(.int (0 : Int32)), (.int q), (.ref t)]) (lenOf pd_86913941 rfl) rfl (by show 2 * 0 + _ ≤ _; exact Nat.le_of_eq rfl) (hb hby dd_jdk_42_method_80_14) (fun _ _ => ⟨rfl, e2, (by decide : 0 + 0 ≤ _), (by decide : 0 + 0 ≤ _)⟩)
  dsimp only [Pt.U, Pt.locs, Pt.cells, Pt.slots] at X3 l3 y3 z3 st3 hQ3
  subst l3 y3 z3
  obtain ⟨rfl, Nq3, eq3⟩ := hQ3
  refine OwnGoes.tr (T' := T3) (g' := (mkF m 17 #[.val (.ref a1), .val (.int q), .val (.int (0 : Int32))] [(.int (1 : Int32)), (.int (0 : Int32)), (.int q), (.ref t)])) st3 ?_
  have N3 := Fr.app N1 Nq3
  obtain ⟨_, _, ⟨T4, L4, k4, n4⟩, -, X4, ⟨Lc4, hQ4, l4, y4, z4⟩, st4⟩ := Jvm.LawKit.callS X3 hx (y := (⟨"java/lang/StringLatin1", "indexOf", "([BIII)I"⟩ : MethodName)) hown (mvT hZ (hw _ (List.mem_of_getElem? (i := 108) rfl))) (mvT hZ (hw _ (List.mem_of_getElem? (i := 109) rfl))) (mvT hZ (hw _ (List.mem_of_getElem? (i := 39) rfl))) (mvT hZ (hw _ (List.mem_of_getElem? (i := 110) rfl))) (by decide) (backOf (W := 0) (rm_iol1 l Z a0 hw [] wG1 wO2 wP5 wG3 wO4 wrG3 hstr hEL h0 n0 X00 t k q c0 f3 hq hc0) hZ (hw _ (List.mem_of_getElem? (i := 110) rfl)) (hw _ (List.mem_of_getElem? (i := 39) rfl)) (by decide) (by decide)) (g := (mkF m 17 #[.val (.ref a1), .val (.int q), .val (.int (0 : Int32))] [(.int (1 : Int32)), (.int (0 : Int32)), (.int q), (.ref t)])) rfl (by rw [hml]; rfl) (argsL := [(.ref t), (.int q), (.int (0 : Int32)), (.int (1 : Int32))]) (rest := []) (lenOf pd_68989375 rfl) rfl (by show 2 * 0 + _ ≤ _; exact Nat.le_of_eq rfl) (hb hby dd_jdk_42_method_80_17) (fun _ _ => ⟨rfl, eq3, (by decide : 0 + 0 ≤ _), (by decide : 0 + 0 ≤ _)⟩)
  dsimp only [Pt.U, Pt.locs, Pt.cells, Pt.slots] at X4 l4 y4 z4 st4 hQ4
  subst l4 y4 z4
  obtain ⟨r_4, rfl, Nq4, eq4, pq4_0⟩ := hQ4
  refine OwnGoes.step (T' := T4) (g' := (mkF m 20 #[.val (.ref a1), .val (.int q), .val (.int (0 : Int32))] [(.int r_4)])) st4 ?_
  have N4 := Fr.app N3 Nq4
  refine OwnGoes.step (T' := T4) (g' := (mkF m 36 #[.val (.ref a1), .val (.int q), .val (.int (0 : Int32))] [(.int r_4)])) (fun tgt kgo => ?_) ?_
  · show Steps p.tables e below (T4.setTop (mkF m 20 #[.val (.ref a1), .val (.int q), .val (.int (0 : Int32))] [(.int r_4)])) tgt
    refine XS.goto X4.here hx rfl (pc0 := 20) (pc' := 36) rfl (hb hby dd_jdk_42_method_80_20) (by decide) (by decide) ?_
    exact kgo
  refine own_leave X4 hlk (v := some (.int r_4)) (fun h => by rw [Bd.returns] at h; cases h) (fun fs hr => retI X4 hx Bd.returns (hb hby dd_jdk_42_method_80_36) hr) (by decide) (by decide) ?_
  show Q_io2_1 Z a1 t k q c0 h0 n0 _ T4.heap _
  rw [eq4]
  exact ⟨r_4, rfl, N4, rfl, pq4_0⟩
theorem ef_io1_1 (m : MethodId) (x0 : Addr) (x1 : Int32) : entryFrame m #[(.ref x0), (.int x1)] 2 = mkF m 0 #[.val (.ref x0), .val (.int x1)] [] := by first | (simp [entryFrame, mkF, argsToLocals, Value.category]; done) | rfl
def Q_io1_1 (Z : State) (a1 : Addr) (t : Addr) (k : ClassId) (q : Int32) (c0 : Int32) (h0 : Heap) (n0 : Nat) (v : Option Value) (h : Heap) (L : List Loc) : Prop := ∃ (r : Int32), v = some (.int r) ∧ Fr n0 L ∧ h = h0 ∧ (((q = c0) ∧ ¬ r < 0) ∨ (¬ (q = c0) ∧ r < 0))
set_option maxRecDepth 65536 in
set_option maxHeartbeats 40000000 in
theorem rm_io1_1 (l : Launch) (Z : State) (a0 : Array Value) (hw : ∀ d ∈ tables_1, d.before a0 Z = true) (ws : List Jvm.Cond) (wG1 : Int32) (wO2 : Sta Z Z.heap "java/lang/String" "COMPACT_STRINGS" "Z" (.int wG1)) (wP5 : ¬ (wG1 = (0 : Int32))) (wG3 : Value) (wO4 : Sta Z Z.heap "jdk/internal/util/Preconditions" "SIOOBE_FORMATTER" "Ljava/util/function/BiFunction;" wG3) (wrG3 : wG3.isRef = true) (hstr : ∀ a ∈ Bundle.stringAtoms, a.before a0 Z = true) (hEL : EW Z a0 consts_1) (h0 : Heap) (n0 : Nat) (X00 : Old Z n0 h0) (a1 : Addr) (t : Addr) (k : ClassId) (q : Int32) (c0 : Int32) (f0 : Exa Z h0 a1 "java/lang/String") (f1 : Fld Z h0 a1 "java/lang/String" "value" "[B" (.ref t)) (f2 : Fld Z h0 a1 "java/lang/String" "coder" "B" (.int (0 : Int32))) (f3 : Arv Z h0 t k .byte (1 : Int32) ((([c0] : List Int32).map (fun c => c.toInt8.toInt32)).map Value.int) (.int (0 : Int32))) (hq : ¬ q < 0 ∧ ¬ (255 : Int32) < q) (hc0 : ¬ c0 < 0 ∧ ¬ (255 : Int32) < c0) :
    MetFree l (⟨"java/lang/String", "indexOf", "(I)I"⟩ : MethodName) (head1 (Jvm.Cond.code (⟨"java/lang/String", "indexOf", "(I)I"⟩ : MethodName) jdk_42_method_79_code 2 (some .int) :: ws) ({ frames := 3, cells := 0, slots := 0, locals := 46 } : Room)) (fun a U => a = #[(.ref a1), (.int q)] ∧ Z.Warmed39 U.vm ∧ U.heap = h0) (fun _ _ _ _ _ => True) (fun _ U o U' => ∃ v L, o = .returned v ∧ Q_io1_1 Z a1 t k q c0 h0 n0 v U'.heap L ∧ FrameEnd U o U' L ({ frames := 3, cells := 0, slots := 0, locals := 46 } : Room).cells ({ frames := 3, cells := 0, slots := 0, locals := 46 } : Room).slots) := by
  refine MetFree.of_bodySF (plainFor_of_name pn_52039224) hisR ?_
  intro p e s m args below meth c s₁ Bd hml0 hP hK
  obtain ⟨rfl, hZ, hh⟩ := hP
  have hx := Bd.exec
  have hby := Bd.bytes
  have hlk := Bd.notSynchronized
  have hml : c.maxLocals = 2 := hml0
  have hown : s.vm.findClass "java/lang/String" = some m.cls := findClass_of_methodNamed Bd.named
  have hnm := (name_of_methodNamed Bd.named Bd.method).1
  have X0 : Stand p l e ({ frames := 3, cells := 0, slots := 0, locals := 46 } : Room) s m #[(.ref a1), (.int q)] below meth c s₁ [] 0 0 := Stand.of_body Bd
  have e0 : s₁.heap = h0 := by rw [← hh, Bd.state]; rfl
  have N0 := Fr.nil n0
  have Z0 : n0 ≤ h0.size := X00.1 ▸ X00.2.1
  have K0 : Keep h0 h0 ([] : List Addr) := Keep.refl _ _
  show OwnGoes p e below (fun o U' => ∃ v L, o = .returned v ∧ Q_io1_1 Z a1 t k q c0 h0 n0 v U'.heap L ∧ FrameEnd s o U' L ({ frames := 3, cells := 0, slots := 0, locals := 46 } : Room).cells ({ frames := 3, cells := 0, slots := 0, locals := 46 } : Room).slots) s₁ (entryFrame m #[(.ref a1), (.int q)] 2)
  refine OwnGoes.step (T' := s₁) (g' := (mkF m 0 #[.val (.ref a1), .val (.int q)] [])) (fun tgt kgo => castTop (ef_io1_1 m a1 q) kgo) ?_
  refine OwnGoes.step (T' := s₁) (g' := (mkF m 3 #[.val (.ref a1), .val (.int q)] [(.int (0 : Int32)), (.int q), (.ref a1)])) (fun tgt kgo => ?_) ?_
  · show Steps p.tables e below (s₁.setTop (mkF m 0 #[.val (.ref a1), .val (.int q)] [])) tgt
    refine XS.aloadN X0.here hx rfl (hb hby dd_jdk_42_method_79_0) rfl rfl ?_
    show Steps p.tables e below (s₁.setTop (mkF m 1 #[.val (.ref a1), .val (.int q)] [(.ref a1)])) tgt
    refine XS.iloadN X0.here hx rfl (hb hby dd_jdk_42_method_79_1) rfl ?_
    show Steps p.tables e below (s₁.setTop (mkF m 2 #[.val (.ref a1), .val (.int q)] [(.int q), (.ref a1)])) tgt
    refine XS.iconst X0.here hx rfl (hb hby dd_jdk_42_method_79_2) ?_
    exact kgo
  obtain ⟨cq1, kq1, q1a, q1b, q1c⟩ := isOf (s := s) hZ e0 f0
  obtain ⟨_, _, ⟨T1, L1, k1, n1⟩, -, X1, ⟨Lc1, hQ1, l1, y1, z1⟩, st1⟩ := X0.virtualBack hx (y := (⟨"java/lang/String", "indexOf", "(II)I"⟩ : MethodName)) (z := (⟨"java/lang/String", "indexOf", "(II)I"⟩ : MethodName)) hown (mvT hZ (hw _ (List.mem_of_getElem? (i := 88) rfl))) (mvT hZ (hw _ (List.mem_of_getElem? (i := 89) rfl))) (notFace_of_selects (args := #[]) (mvT hZ (hw _ (List.mem_of_getElem? (i := 91) rfl)))) (mvT hZ (hw _ (List.mem_of_getElem? (i := 91) rfl))) (mvT hZ (hw _ (List.mem_of_getElem? (i := 90) rfl))) (by decide) (backOf (W := 0) (rm_io2_1 l Z a0 hw [] wG1 wO2 wP5 wG3 wO4 wrG3 hstr hEL h0 n0 X00 a1 t k q c0 f0 f1 f2 f3 hq hc0) hZ (hw _ (List.mem_of_getElem? (i := 92) rfl)) (hw _ (List.mem_of_getElem? (i := 6) rfl)) (by decide) (by decide)) q1a q1c (g := (mkF m 3 #[.val (.ref a1), .val (.int q)] [(.int (0 : Int32)), (.int q), (.ref a1)])) rfl (by rw [hml]; rfl) (Steps.refl _) (argsL := [(.int q), (.int (0 : Int32))]) (rest := []) (lenOf pd_50523903 rfl) rfl (by show 2 * 0 + _ ≤ _; exact Nat.le_of_eq rfl) (hb hby dd_jdk_42_method_79_3) (fun _ _ => ⟨rfl, e0, (by decide : 0 + 0 ≤ _), (by decide : 0 + 0 ≤ _)⟩)
  dsimp only [Pt.U, Pt.locs, Pt.cells, Pt.slots] at X1 l1 y1 z1 st1 hQ1
  subst l1 y1 z1
  obtain ⟨r_1, rfl, Nq1, eq1, pq1_0⟩ := hQ1
  refine OwnGoes.tr (T' := T1) (g' := (mkF m 6 #[.val (.ref a1), .val (.int q)] [(.int r_1)])) st1 ?_
  have N1 := Fr.app N0 Nq1
  refine own_leave X1 hlk (v := some (.int r_1)) (fun h => by rw [Bd.returns] at h; cases h) (fun fs hr => retI X1 hx Bd.returns (hb hby dd_jdk_42_method_79_6) hr) (by decide) (by decide) ?_
  show Q_io1_1 Z a1 t k q c0 h0 n0 _ T1.heap _
  rw [eq1]
  exact ⟨r_1, rfl, N1, rfl, pq1_0⟩
theorem ef_alw1 (m : MethodId) (x0 : Addr) (x1 : Int32) : entryFrame m #[(.ref x0), (.int x1)] 2 = mkF m 0 #[.val (.ref x0), .val (.int x1)] [] := by first | (simp [entryFrame, mkF, argsToLocals, Value.category]; done) | rfl
def Q_alw1 (Z : State) (o1 : Addr) (a1 : Addr) (t : Addr) (k : ClassId) (q : Int32) (c0 : Int32) (h0 : Heap) (n0 : Nat) (v : Option Value) (h : Heap) (L : List Loc) : Prop := ∃ (r : Int32), v = some (.int r) ∧ Fr n0 L ∧ h = h0 ∧ (((q = c0) ∧ r = 1) ∨ (¬ (q = c0) ∧ r = 0))
set_option maxRecDepth 65536 in
set_option maxHeartbeats 40000000 in
theorem rm_alw1 (l : Launch) (Z : State) (a0 : Array Value) (hw : ∀ d ∈ tables_1, d.before a0 Z = true) (ws : List Jvm.Cond) (wG1 : Int32) (wO2 : Sta Z Z.heap "java/lang/String" "COMPACT_STRINGS" "Z" (.int wG1)) (wP5 : ¬ (wG1 = (0 : Int32))) (wG3 : Value) (wO4 : Sta Z Z.heap "jdk/internal/util/Preconditions" "SIOOBE_FORMATTER" "Ljava/util/function/BiFunction;" wG3) (wrG3 : wG3.isRef = true) (hstr : ∀ a ∈ Bundle.stringAtoms, a.before a0 Z = true) (hEL : EW Z a0 consts_1) (h0 : Heap) (n0 : Nat) (X00 : Old Z n0 h0) (o1 : Addr) (a1 : Addr) (t : Addr) (k : ClassId) (q : Int32) (c0 : Int32) (f0 : Fld Z h0 o1 "com/example/fieldwright/fieldwright/FieldStructure" "subfields" "Ljava/lang/String;" (.ref a1)) (f1 : Exa Z h0 a1 "java/lang/String") (f2 : Fld Z h0 a1 "java/lang/String" "value" "[B" (.ref t)) (f3 : Fld Z h0 a1 "java/lang/String" "coder" "B" (.int (0 : Int32))) (f4 : Arv Z h0 t k .byte (1 : Int32) ((([c0] : List Int32).map (fun c => c.toInt8.toInt32)).map Value.int) (.int (0 : Int32))) (hq : ¬ q < 0 ∧ ¬ (255 : Int32) < q) (hc0 : ¬ c0 < 0 ∧ ¬ (255 : Int32) < c0) :
    MetFree l (⟨"com/example/fieldwright/fieldwright/FieldStructure", "allows", "(C)Z"⟩ : MethodName) (head1 (Jvm.Cond.code (⟨"com/example/fieldwright/fieldwright/FieldStructure", "allows", "(C)Z"⟩ : MethodName) prog_18_method_6_code 2 (some .boolean) :: ws) ({ frames := 4, cells := 0, slots := 0, locals := 59 } : Room)) (fun a U => a = #[(.ref o1), (.int q)] ∧ Z.Warmed39 U.vm ∧ U.heap = h0) (fun _ _ _ _ _ => True) (fun _ U o U' => ∃ v L, o = .returned v ∧ Q_alw1 Z o1 a1 t k q c0 h0 n0 v U'.heap L ∧ FrameEnd U o U' L ({ frames := 4, cells := 0, slots := 0, locals := 59 } : Room).cells ({ frames := 4, cells := 0, slots := 0, locals := 59 } : Room).slots) := by
  refine MetFree.of_bodySF (plainFor_of_name pn_85196114) hisR ?_
  intro p e s m args below meth c s₁ Bd hml0 hP hK
  obtain ⟨rfl, hZ, hh⟩ := hP
  have hx := Bd.exec
  have hby := Bd.bytes
  have hlk := Bd.notSynchronized
  have hml : c.maxLocals = 2 := hml0
  have hown : s.vm.findClass "com/example/fieldwright/fieldwright/FieldStructure" = some m.cls := findClass_of_methodNamed Bd.named
  have hnm := (name_of_methodNamed Bd.named Bd.method).1
  have X0 : Stand p l e ({ frames := 4, cells := 0, slots := 0, locals := 59 } : Room) s m #[(.ref o1), (.int q)] below meth c s₁ [] 0 0 := Stand.of_body Bd
  have e0 : s₁.heap = h0 := by rw [← hh, Bd.state]; rfl
  have N0 := Fr.nil n0
  have Z0 : n0 ≤ h0.size := X00.1 ▸ X00.2.1
  have K0 : Keep h0 h0 ([] : List Addr) := Keep.refl _ _
  show OwnGoes p e below (fun o U' => ∃ v L, o = .returned v ∧ Q_alw1 Z o1 a1 t k q c0 h0 n0 v U'.heap L ∧ FrameEnd s o U' L ({ frames := 4, cells := 0, slots := 0, locals := 59 } : Room).cells ({ frames := 4, cells := 0, slots := 0, locals := 59 } : Room).slots) s₁ (entryFrame m #[(.ref o1), (.int q)] 2)
  refine OwnGoes.step (T' := s₁) (g' := (mkF m 0 #[.val (.ref o1), .val (.int q)] [])) (fun tgt kgo => castTop (ef_alw1 m o1 q) kgo) ?_
  refine OwnGoes.step (T' := s₁) (g' := (mkF m 1 #[.val (.ref o1), .val (.int q)] [(.ref o1)])) (fun tgt kgo => ?_) ?_
  · show Steps p.tables e below (s₁.setTop (mkF m 0 #[.val (.ref o1), .val (.int q)] [])) tgt
    refine XS.aloadN X0.here hx rfl (hb hby dd_prog_18_method_6_0) rfl rfl ?_
    exact kgo
  obtain ⟨T1, X1, e1, st1⟩ := getF X0 hx hZ hown (host := "") (Or.inl (hw _ (List.mem_of_getElem? (i := 74) rfl))) Via.refl e0 f0 (g := (mkF m 1 #[.val (.ref o1), .val (.int q)] [(.ref o1)])) rfl rfl (hb hby dd_prog_18_method_6_1)
  refine OwnGoes.step (T' := T1) (g' := (mkF m 4 #[.val (.ref o1), .val (.int q)] [(.ref a1)])) st1 ?_
  refine OwnGoes.step (T' := T1) (g' := (mkF m 5 #[.val (.ref o1), .val (.int q)] [(.int q), (.ref a1)])) (fun tgt kgo => ?_) ?_
  · show Steps p.tables e below (T1.setTop (mkF m 4 #[.val (.ref o1), .val (.int q)] [(.ref a1)])) tgt
    refine XS.iloadN X1.here hx rfl (hb hby dd_prog_18_method_6_4) rfl ?_
    exact kgo
  obtain ⟨cq2, kq2, q2a, q2b, q2c⟩ := isOf (s := s) hZ e1 f1
  obtain ⟨_, _, ⟨T2, L2, k2, n2⟩, -, X2, ⟨Lc2, hQ2, l2, y2, z2⟩, st2⟩ := X1.virtualBack hx (y := (⟨"java/lang/String", "indexOf", "(I)I"⟩ : MethodName)) (z := (⟨"java/lang/String", "indexOf", "(I)I"⟩ : MethodName)) hown (mvT hZ (hw _ (List.mem_of_getElem? (i := 83) rfl))) (mvT hZ (hw _ (List.mem_of_getElem? (i := 84) rfl))) (notFace_of_selects (args := #[]) (mvT hZ (hw _ (List.mem_of_getElem? (i := 86) rfl)))) (mvT hZ (hw _ (List.mem_of_getElem? (i := 86) rfl))) (mvT hZ (hw _ (List.mem_of_getElem? (i := 85) rfl))) (by decide) (backOf (W := 0) (rm_io1_1 l Z a0 hw [] wG1 wO2 wP5 wG3 wO4 wrG3 hstr hEL h0 n0 X00 a1 t k q c0 f1 f2 f3 f4 hq hc0) hZ (hw _ (List.mem_of_getElem? (i := 87) rfl)) (hw _ (List.mem_of_getElem? (i := 6) rfl)) (by decide) (by decide)) q2a q2c (g := (mkF m 5 #[.val (.ref o1), .val (.int q)] [(.int q), (.ref a1)])) rfl (by rw [hml]; rfl) (Steps.refl _) (argsL := [(.int q)]) (rest := []) (lenOf pd_92649053 rfl) rfl (by show 2 * 0 + _ ≤ _; exact Nat.le_of_eq rfl) (hb hby dd_prog_18_method_6_5) (fun _ _ => ⟨rfl, e1, (by decide : 0 + 0 ≤ _), (by decide : 0 + 0 ≤ _)⟩)
  dsimp only [Pt.U, Pt.locs, Pt.cells, Pt.slots] at X2 l2 y2 z2 st2 hQ2
  subst l2 y2 z2
  obtain ⟨r_2, rfl, Nq2, eq2, pq2_0⟩ := hQ2
  refine OwnGoes.tr (T' := T2) (g' := (mkF m 8 #[.val (.ref o1), .val (.int q)] [(.int r_2)])) st2 ?_
  have N2 := Fr.app N0 Nq2
  by_cases cc3 : r_2 < (0 : Int32)
  · skip
    refine OwnGoes.step (T' := T2) (g' := (mkF m 16 #[.val (.ref o1), .val (.int q)] [(.int (0 : Int32))])) (fun tgt kgo => ?_) ?_
    · show Steps p.tables e below (T2.setTop (mkF m 8 #[.val (.ref o1), .val (.int q)] [(.int r_2)])) tgt
      refine XS.ifYes X2.here hx rfl (pc0 := 8) (pc' := 15) rfl (hb hby dd_prog_18_method_6_8) rfl ((if0 _ _).trans (tlt cc3).1) (by decide) (by decide) ?_
      show Steps p.tables e below (T2.setTop (mkF m 15 #[.val (.ref o1), .val (.int q)] [])) tgt
      refine XS.iconst X2.here hx rfl (hb hby dd_prog_18_method_6_15) ?_
      exact kgo
    refine own_leave X2 hlk (v := some (.int (0 : Int32))) (fun h => by rw [Bd.returns] at h; cases h) (fun fs hr => retN X2 hx (t := .boolean) Bd.returns (by simp) (hb hby dd_prog_18_method_6_16) (by rw [(by decide : nar .boolean (0 : Int32) = (0 : Int32))]; exact hr)) (by decide) (by decide) ?_
    show Q_alw1 Z o1 a1 t k q c0 h0 n0 _ T2.heap _
    rw [eq2]
    exact ⟨(0 : Int32), rfl, N2, rfl, (Or.inr ⟨(pq2_0.resolve_left fun z => z.2 cc3).1, rfl⟩)⟩
  · skip
    refine OwnGoes.step (T' := T2) (g' := (mkF m 16 #[.val (.ref o1), .val (.int q)] [(.int (1 : Int32))])) (fun tgt kgo => ?_) ?_
    · show Steps p.tables e below (T2.setTop (mkF m 8 #[.val (.ref o1), .val (.int q)] [(.int r_2)])) tgt
      refine XS.ifNo X2.here hx rfl (hb hby dd_prog_18_method_6_8) rfl ((if0 _ _).trans (flt cc3).1) ?_
      show Steps p.tables e below (T2.setTop (mkF m 11 #[.val (.ref o1), .val (.int q)] [])) tgt
      refine XS.iconst X2.here hx rfl (hb hby dd_prog_18_method_6_11) ?_
      show Steps p.tables e below (T2.setTop (mkF m 12 #[.val (.ref o1), .val (.int q)] [(.int (1 : Int32))])) tgt
      refine XS.goto X2.here hx rfl (pc0 := 12) (pc' := 16) rfl (hb hby dd_prog_18_method_6_12) (by decide) (by decide) ?_
      exact kgo
    refine own_leave X2 hlk (v := some (.int (1 : Int32))) (fun h => by rw [Bd.returns] at h; cases h) (fun fs hr => retN X2 hx (t := .boolean) Bd.returns (by simp) (hb hby dd_prog_18_method_6_16) (by rw [(by decide : nar .boolean (1 : Int32) = (1 : Int32))]; exact hr)) (by decide) (by decide) ?_
    show Q_alw1 Z o1 a1 t k q c0 h0 n0 _ T2.heap _
    rw [eq2]
    exact ⟨(1 : Int32), rfl, N2, rfl, (Or.inl ⟨(pq2_0.resolve_right fun z => cc3 z.2).1, rfl⟩)⟩
theorem ef_len2 (m : MethodId) (x0 : Addr) : entryFrame m #[(.ref x0)] 1 = mkF m 0 #[.val (.ref x0)] [] := by first | (simp [entryFrame, mkF, argsToLocals, Value.category]; done) | rfl
def Q_len2 (Z : State) (a1 : Addr) (t : Addr) (k : ClassId) (c0 : Int32) (c1 : Int32) (h0 : Heap) (n0 : Nat) (v : Option Value) (h : Heap) (L : List Loc) : Prop := v = some (.int (2 : Int32)) ∧ Fr n0 L ∧ h = h0
set_option maxRecDepth 65536 in
set_option maxHeartbeats 40000000 in
theorem rm_len2 (l : Launch) (Z : State) (a0 : Array Value) (hw : ∀ d ∈ tables_1, d.before a0 Z = true) (ws : List Jvm.Cond) (wG1 : Int32) (wO2 : Sta Z Z.heap "java/lang/String" "COMPACT_STRINGS" "Z" (.int wG1)) (wP5 : ¬ (wG1 = (0 : Int32))) (wG3 : Value) (wO4 : Sta Z Z.heap "jdk/internal/util/Preconditions" "SIOOBE_FORMATTER" "Ljava/util/function/BiFunction;" wG3) (wrG3 : wG3.isRef = true) (hstr : ∀ a ∈ Bundle.stringAtoms, a.before a0 Z = true) (hEL : EW Z a0 consts_1) (h0 : Heap) (n0 : Nat) (X00 : Old Z n0 h0) (a1 : Addr) (t : Addr) (k : ClassId) (c0 : Int32) (c1 : Int32) (f0 : Exa Z h0 a1 "java/lang/String") (f1 : Fld Z h0 a1 "java/lang/String" "value" "[B" (.ref t)) (f2 : Fld Z h0 a1 "java/lang/String" "coder" "B" (.int (0 : Int32))) (f3 : Arv Z h0 t k .byte (2 : Int32) ((([c0, c1] : List Int32).map (fun c => c.toInt8.toInt32)).map Value.int) (.int (0 : Int32))) :
    MetFree l (⟨"java/lang/String", "length", "()I"⟩ : MethodName) (head1 (Jvm.Cond.code (⟨"java/lang/String", "length", "()I"⟩ : MethodName) jdk_42_method_54_code 1 (some .int) :: ws) ({ frames := 1, cells := 0, slots := 0, locals := 13 } : Room)) (fun a U => a = #[(.ref a1)] ∧ Z.Warmed39 U.vm ∧ U.heap = h0) (fun _ _ _ _ _ => True) (fun _ U o U' => ∃ v L, o = .returned v ∧ Q_len2 Z a1 t k c0 c1 h0 n0 v U'.heap L ∧ FrameEnd U o U' L ({ frames := 1, cells := 0, slots := 0, locals := 13 } : Room).cells ({ frames := 1, cells := 0, slots := 0, locals := 13 } : Room).slots) := by
  refine MetFree.of_bodySF (plainFor_of_name pn_52039224) hisR ?_
  intro p e s m args below meth c s₁ Bd hml0 hP hK
  obtain ⟨rfl, hZ, hh⟩ := hP
  have hx := Bd.exec
  have hby := Bd.bytes
  have hlk := Bd.notSynchronized
  have hml : c.maxLocals = 1 := hml0
  have hown : s.vm.findClass "java/lang/String" = some m.cls := findClass_of_methodNamed Bd.named
  have hnm := (name_of_methodNamed Bd.named Bd.method).1
  have X0 : Stand p l e ({ frames := 1, cells := 0, slots := 0, locals := 13 } : Room) s m #[(.ref a1)] below meth c s₁ [] 0 0 := Stand.of_body Bd
  have e0 : s₁.heap = h0 := by rw [← hh, Bd.state]; rfl
  have N0 := Fr.nil n0
  have Z0 : n0 ≤ h0.size := X00.1 ▸ X00.2.1
  have K0 : Keep h0 h0 ([] : List Addr) := Keep.refl _ _
  show OwnGoes p e below (fun o U' => ∃ v L, o = .returned v ∧ Q_len2 Z a1 t k c0 c1 h0 n0 v U'.heap L ∧ FrameEnd s o U' L ({ frames := 1, cells := 0, slots := 0, locals := 13 } : Room).cells ({ frames := 1, cells := 0, slots := 0, locals := 13 } : Room).slots) s₁ (entryFrame m #[(.ref a1)] 1)
  refine OwnGoes.step (T' := s₁) (g' := (mkF m 0 #[.val (.ref a1)] [])) (fun tgt kgo => castTop (ef_len2 m a1) kgo) ?_
  refine OwnGoes.step (T' := s₁) (g' := (mkF m 1 #[.val (.ref a1)] [(.ref a1)])) (fun tgt kgo => ?_) ?_
  · show Steps p.tables e below (s₁.setTop (mkF m 0 #[.val (.ref a1)] [])) tgt
    refine XS.aloadN X0.here hx rfl (hb hby dd_jdk_42_method_54_0) rfl rfl ?_
    exact kgo
  obtain ⟨T1, X1, e1, st1⟩ := getF X0 hx hZ hown (host := "") (Or.inl (hw _ (List.mem_of_getElem? (i := 32) rfl))) Via.refl e0 f1 (g := (mkF m 1 #[.val (.ref a1)] [(.ref a1)])) rfl rfl (hb hby dd_jdk_42_method_54_1)
  refine OwnGoes.step (T' := T1) (g' := (mkF m 4 #[.val (.ref a1)] [(.ref t)])) st1 ?_
  refine OwnGoes.step (T' := T1) (g' := (mkF m 6 #[.val (.ref a1)] [(.ref a1), (.int (2 : Int32))])) (fun tgt kgo => ?_) ?_
  · show Steps p.tables e below (T1.setTop (mkF m 4 #[.val (.ref a1)] [(.ref t)])) tgt
    obtain ⟨cl2, Ar2, q2, S2, M2, -, -⟩ := f3
    refine X1.arraylength hx (by rw [e1]; exact Ar2.1) (State.isArrayOf_alike hZ.alike Ar2.2.1) (g := (mkF m 4 #[.val (.ref a1)] [(.ref t)])) rfl rfl (hb hby dd_jdk_42_method_54_4) _ ?_
    rw [len_of S2 M2]
    show Steps p.tables e below (T1.setTop (mkF m 5 #[.val (.ref a1)] [(.int (2 : Int32))])) tgt
    refine XS.aloadN X1.here hx rfl (hb hby dd_jdk_42_method_54_5) rfl rfl ?_
    exact kgo
  obtain ⟨cq3, kq3, q3a, q3b, q3c⟩ := isOf (s := s) hZ e1 f0
  obtain ⟨_, _, ⟨T3, L3, k3, n3⟩, -, X3, ⟨Lc3, hQ3, l3, y3, z3⟩, st3⟩ := X1.virtualBack hx (y := (⟨"java/lang/String", "coder", "()B"⟩ : MethodName)) (z := (⟨"java/lang/String", "coder", "()B"⟩ : MethodName)) hown (mvT hZ (hw _ (List.mem_of_getElem? (i := 103) rfl))) (mvT hZ (hw _ (List.mem_of_getElem? (i := 104) rfl))) (notFace_of_selects (args := #[]) (mvT hZ (hw _ (List.mem_of_getElem? (i := 106) rfl)))) (mvT hZ (hw _ (List.mem_of_getElem? (i := 106) rfl))) (mvT hZ (hw _ (List.mem_of_getElem? (i := 105) rfl))) (by decide) (backOf (W := 1) (rm_cod l Z a0 hw [] wG1 wO2 wP5 wG3 wO4 wrG3 hstr hEL h0 n0 X00 a1 f2) hZ (hw _ (List.mem_of_getElem? (i := 107) rfl)) (hw _ (List.mem_of_getElem? (i := 6) rfl)) (by decide) (by decide)) q3a q3c (g := (mkF m 6 #[.val (.ref a1)] [(.ref a1), (.int (2 : Int32))])) rfl (by rw [hml]; rfl) (Steps.refl _) (argsL := []) (rest := [(.int (2 : Int32))]) (lenOf pd_61459997 rfl) rfl (by show 2 * 0 + _ ≤ _; exact Nat.le_of_eq rfl) (hb hby dd_jdk_42_method_54_6) (fun _ _ => ⟨rfl, e1, (by decide : 0 + 0 ≤ _), (by decide : 0 + 0 ≤ _)⟩)
  dsimp only [Pt.U, Pt.locs, Pt.cells, Pt.slots] at X3 l3 y3 z3 st3 hQ3
  subst l3 y3 z3
  obtain ⟨rfl, Nq3, eq3⟩ := hQ3
  refine OwnGoes.tr (T' := T3) (g' := (mkF m 9 #[.val (.ref a1)] [(.int (0 : Int32)), (.int (2 : Int32))])) st3 ?_
  have N3 := Fr.app N0 Nq3
  refine OwnGoes.step (T' := T3) (g' := (mkF m 10 #[.val (.ref a1)] [(.int (2 : Int32))])) (fun tgt kgo => ?_) ?_
  · show Steps p.tables e below (T3.setTop (mkF m 9 #[.val (.ref a1)] [(.int (0 : Int32)), (.int (2 : Int32))])) tgt
    refine XS.ishr X3.here hx rfl (hb hby dd_jdk_42_method_54_9) rfl ?_
    exact kgo
  refine own_leave X3 hlk (v := some (.int (2 : Int32))) (fun h => by rw [Bd.returns] at h; cases h) (fun fs hr => retI X3 hx Bd.returns (hb hby dd_jdk_42_method_54_10) hr) (by decide) (by decide) ?_
  show Q_len2 Z a1 t k c0 c1 h0 n0 _ T3.heap _
  rw [eq3]
  exact ⟨rfl, N3, rfl⟩
theorem ef_min2 (m : MethodId)  : entryFrame m #[(.int (2 : Int32)), (.int (2 : Int32))] 2 = mkF m 0 #[.val (.int (2 : Int32)), .val (.int (2 : Int32))] [] := by first | (simp [entryFrame, mkF, argsToLocals, Value.category]; done) | rfl
def Q_min2 (Z : State)  (h0 : Heap) (n0 : Nat) (v : Option Value) (h : Heap) (L : List Loc) : Prop := v = some (.int (2 : Int32)) ∧ Fr n0 L ∧ h = h0
set_option maxRecDepth 65536 in
set_option maxHeartbeats 40000000 in
theorem rm_min2 (l : Launch) (Z : State) (a0 : Array Value) (hw : ∀ d ∈ tables_1, d.before a0 Z = true) (ws : List Jvm.Cond) (wG1 : Int32) (wO2 : Sta Z Z.heap "java/lang/String" "COMPACT_STRINGS" "Z" (.int wG1)) (wP5 : ¬ (wG1 = (0 : Int32))) (wG3 : Value) (wO4 : Sta Z Z.heap "jdk/internal/util/Preconditions" "SIOOBE_FORMATTER" "Ljava/util/function/BiFunction;" wG3) (wrG3 : wG3.isRef = true) (hstr : ∀ a ∈ Bundle.stringAtoms, a.before a0 Z = true) (hEL : EW Z a0 consts_1) (h0 : Heap) (n0 : Nat) (X00 : Old Z n0 h0)  :
    MetFree l (⟨"java/lang/Math", "min", "(II)I"⟩ : MethodName) (head1 (Jvm.Cond.code (⟨"java/lang/Math", "min", "(II)I"⟩ : MethodName) jdk_29_method_69_code 2 (some .int) :: ws) ({ frames := 0, cells := 0, slots := 0, locals := 0 } : Room)) (fun a U => a = #[(.int (2 : Int32)), (.int (2 : Int32))] ∧ Z.Warmed39 U.vm ∧ U.heap = h0) (fun _ _ _ _ _ => True) (fun _ U o U' => ∃ v L, o = .returned v ∧ Q_min2 Z  h0 n0 v U'.heap L ∧ FrameEnd U o U' L ({ frames := 0, cells := 0, slots := 0, locals := 0 } : Room).cells ({ frames := 0, cells := 0, slots := 0, locals := 0 } : Room).slots) := by
  refine MetFree.of_bodySF (Jvm.Free.JP.mathPlain rfl (by decide +kernel)) hisR ?_
  intro p e s m args below meth c s₁ Bd hml0 hP hK
  obtain ⟨rfl, hZ, hh⟩ := hP
  have hx := Bd.exec
  have hby := Bd.bytes
  have hlk := Bd.notSynchronized
  have hml : c.maxLocals = 2 := hml0
  have hown : s.vm.findClass "java/lang/Math" = some m.cls := findClass_of_methodNamed Bd.named
  have hnm := (name_of_methodNamed Bd.named Bd.method).1
  have X0 : Stand p l e ({ frames := 0, cells := 0, slots := 0, locals := 0 } : Room) s m #[(.int (2 : Int32)), (.int (2 : Int32))] below meth c s₁ [] 0 0 := Stand.of_body Bd
  have e0 : s₁.heap = h0 := by rw [← hh, Bd.state]; rfl
  have N0 := Fr.nil n0
  have Z0 : n0 ≤ h0.size := X00.1 ▸ X00.2.1
  have K0 : Keep h0 h0 ([] : List Addr) := Keep.refl _ _
  show OwnGoes p e below (fun o U' => ∃ v L, o = .returned v ∧ Q_min2 Z  h0 n0 v U'.heap L ∧ FrameEnd s o U' L ({ frames := 0, cells := 0, slots := 0, locals := 0 } : Room).cells ({ frames := 0, cells := 0, slots := 0, locals := 0 } : Room).slots) s₁ (entryFrame m #[(.int (2 : Int32)), (.int (2 : Int32))] 2)
  refine OwnGoes.step (T' := s₁) (g' := (mkF m 0 #[.val (.int (2 : Int32)), .val (.int (2 : Int32))] [])) (fun tgt kgo => castTop (ef_min2 m ) kgo) ?_
  refine OwnGoes.step (T' := s₁) (g' := (mkF m 10 #[.val (.int (2 : Int32)), .val (.int (2 : Int32))] [(.int (2 : Int32))])) (fun tgt kgo => ?_) ?_
  · show Steps p.tables e below (s₁.setTop (mkF m 0 #[.val (.int (2 : Int32)), .val (.int (2 : Int32))] [])) tgt
    refine XS.iloadN X0.here hx rfl (hb hby dd_jdk_29_method_69_0) rfl ?_
    show Steps p.tables e below (s₁.setTop (mkF m 1 #[.val (.int (2 : Int32)), .val (.int (2 : Int32))] [(.int (2 : Int32))])) tgt
    refine XS.iloadN X0.here hx rfl (hb hby dd_jdk_29_method_69_1) rfl ?_
    show Steps p.tables e below (s₁.setTop (mkF m 2 #[.val (.int (2 : Int32)), .val (.int (2 : Int32))] [(.int (2 : Int32)), (.int (2 : Int32))])) tgt
    refine XS.icmpNo X0.here hx rfl (hb hby dd_jdk_29_method_69_2) rfl (flt (by decide : ¬ ((2 : Int32) < (2 : Int32)))).2.2.1 ?_
    show Steps p.tables e below (s₁.setTop (mkF m 5 #[.val (.int (2 : Int32)), .val (.int (2 : Int32))] [])) tgt
    refine XS.iloadN X0.here hx rfl (hb hby dd_jdk_29_method_69_5) rfl ?_
    show Steps p.tables e below (s₁.setTop (mkF m 6 #[.val (.int (2 : Int32)), .val (.int (2 : Int32))] [(.int (2 : Int32))])) tgt
    refine XS.goto X0.here hx rfl (pc0 := 6) (pc' := 10) rfl (hb hby dd_jdk_29_method_69_6) (by decide) (by decide) ?_
    exact kgo
  refine own_leave X0 hlk (v := some (.int (2 : Int32))) (fun h => by rw [Bd.returns] at h; cases h) (fun fs hr => retI X0 hx Bd.returns (hb hby dd_jdk_29_method_69_10) hr) (by decide) (by decide) ?_
  show Q_min2 Z  h0 n0 _ s₁.heap _
  rw [e0]
  exact ⟨rfl, N0, rfl⟩
theorem ef_ioc2 (m : MethodId) (x0 : Addr) (x1 : Int32) : entryFrame m #[(.ref x0), (.int x1), (.int (0 : Int32)), (.int (2 : Int32))] 6 = mkF m 0 #[.val (.ref x0), .val (.int x1), .val (.int (0 : Int32)), .val (.int (2 : Int32)), .unset, .unset] [] := by first | (simp [entryFrame, mkF, argsToLocals, Value.category]; done) | rfl
def Q_ioc2 (Z : State) (t : Addr) (k : ClassId) (q : Int32) (c0 : Int32) (c1 : Int32) (h0 : Heap) (n0 : Nat) (v : Option Value) (h : Heap) (L : List Loc) : Prop := ∃ (r : Int32), v = some (.int r) ∧ Fr n0 L ∧ h = h0 ∧ (((q = c0 ∨ q = c1) ∧ ¬ r < 0) ∨ (¬ (q = c0 ∨ q = c1) ∧ r < 0))
set_option maxRecDepth 65536 in
set_option maxHeartbeats 40000000 in
theorem rm_ioc2 (l : Launch) (Z : State) (a0 : Array Value) (hw : ∀ d ∈ tables_1, d.before a0 Z = true) (ws : List Jvm.Cond) (wG1 : Int32) (wO2 : Sta Z Z.heap "java/lang/String" "COMPACT_STRINGS" "Z" (.int wG1)) (wP5 : ¬ (wG1 = (0 : Int32))) (wG3 : Value) (wO4 : Sta Z Z.heap "jdk/internal/util/Preconditions" "SIOOBE_FORMATTER" "Ljava/util/function/BiFunction;" wG3) (wrG3 : wG3.isRef = true) (hstr : ∀ a ∈ Bundle.stringAtoms, a.before a0 Z = true) (hEL : EW Z a0 consts_1) (h0 : Heap) (n0 : Nat) (X00 : Old Z n0 h0) (t : Addr) (k : ClassId) (q : Int32) (c0 : Int32) (c1 : Int32) (f0 : Arv Z h0 t k .byte (2 : Int32) ((([c0, c1] : List Int32).map (fun c => c.toInt8.toInt32)).map Value.int) (.int (0 : Int32))) (hq : ¬ q < 0 ∧ ¬ (255 : Int32) < q) (hc0 : ¬ c0 < 0 ∧ ¬ (255 : Int32) < c0) (hc1 : ¬ c1 < 0 ∧ ¬ (255 : Int32) < c1) :
    MetFree l (⟨"java/lang/StringLatin1", "indexOfChar", "([BIII)I"⟩ : MethodName) (head1 (Jvm.Cond.code (⟨"java/lang/StringLatin1", "indexOfChar", "([BIII)I"⟩ : MethodName) jdk_43_method_23_code 6 (some .int) :: ws) ({ frames := 0, cells := 0, slots := 0, locals := 0 } : Room)) (fun a U => a = #[(.ref t), (.int q), (.int (0 : Int32)), (.int (2 : Int32))] ∧ Z.Warmed39 U.vm ∧ U.heap = h0) (fun _ _ _ _ _ => True) (fun _ U o U' => ∃ v L, o = .returned v ∧ Q_ioc2 Z t k q c0 c1 h0 n0 v U'.heap L ∧ FrameEnd U o U' L ({ frames := 0, cells := 0, slots := 0, locals := 0 } : Room).cells ({ frames := 0, cells := 0, slots := 0, locals := 0 } : Room).slots) := by
  refine MetFree.of_bodySF (plainFor_of_name pn_54843740) hisR ?_
  intro p e s m args below meth c s₁ Bd hml0 hP hK
  obtain ⟨rfl, hZ, hh⟩ := hP
  have hx := Bd.exec
  have hby := Bd.bytes
  have hlk := Bd.notSynchronized
  have hml : c.maxLocals = 6 := hml0
  have hown : s.vm.findClass "java/lang/StringLatin1" = some m.cls := findClass_of_methodNamed Bd.named
  have hnm := (name_of_methodNamed Bd.named Bd.method).1
  have X0 : Stand p l e ({ frames := 0, cells := 0, slots := 0, locals := 0 } : Room) s m #[(.ref t), (.int q), (.int (0 : Int32)), (.int (2 : Int32))] below meth c s₁ [] 0 0 := Stand.of_body Bd
  have e0 : s₁.heap = h0 := by rw [← hh, Bd.state]; rfl
  have N0 := Fr.nil n0
  have Z0 : n0 ≤ h0.size := X00.1 ▸ X00.2.1
  have K0 : Keep h0 h0 ([] : List Addr) := Keep.refl _ _
  show OwnGoes p e below (fun o U' => ∃ v L, o = .returned v ∧ Q_ioc2 Z t k q c0 c1 h0 n0 v U'.heap L ∧ FrameEnd s o U' L ({ frames := 0, cells := 0, slots := 0, locals := 0 } : Room).cells ({ frames := 0, cells := 0, slots := 0, locals := 0 } : Room).slots) s₁ (entryFrame m #[(.ref t), (.int q), (.int (0 : Int32)), (.int (2 : Int32))] 6)
  refine OwnGoes.step (T' := s₁) (g' := (mkF m 0 #[.val (.ref t), .val (.int q), .val (.int (0 : Int32)), .val (.int (2 : Int32)), .unset, .unset] [])) (fun tgt kgo => castTop (ef_ioc2 m t q) kgo) ?_
  refine OwnGoes.step (T' := s₁) (g' := (mkF m 19 #[.val (.ref t), .val (.int q), .val (.int (0 : Int32)), .val (.int (2 : Int32)), .val (.int (nar .byte q)), .val (.int (0 : Int32))] [(.int (nar .byte q)), (.int (c0.toInt8.toInt32))])) (fun tgt kgo => ?_) ?_
  · show Steps p.tables e below (s₁.setTop (mkF m 0 #[.val (.ref t), .val (.int q), .val (.int (0 : Int32)), .val (.int (2 : Int32)), .unset, .unset] [])) tgt
    refine XS.iloadN X0.here hx rfl (hb hby dd_jdk_43_method_23_0) rfl ?_
    show Steps p.tables e below (s₁.setTop (mkF m 1 #[.val (.ref t), .val (.int q), .val (.int (0 : Int32)), .val (.int (2 : Int32)), .unset, .unset] [(.int q)])) tgt
    refine XS.i2b X0.here hx rfl (hb hby dd_jdk_43_method_23_1) rfl ?_
    show Steps p.tables e below (s₁.setTop (mkF m 2 #[.val (.ref t), .val (.int q), .val (.int (0 : Int32)), .val (.int (2 : Int32)), .unset, .unset] [(.int (nar .byte q))])) tgt
    refine XS.istore X0.here hx rfl (hb hby dd_jdk_43_method_23_2) rfl (l' := #[.val (.ref t), .val (.int q), .val (.int (0 : Int32)), .val (.int (2 : Int32)), .val (.int (nar .byte q)), .unset]) rfl ?_
    show Steps p.tables e below (s₁.setTop (mkF m 4 #[.val (.ref t), .val (.int q), .val (.int (0 : Int32)), .val (.int (2 : Int32)), .val (.int (nar .byte q)), .unset] [])) tgt
    refine XS.iloadN X0.here hx rfl (hb hby dd_jdk_43_method_23_4) rfl ?_
    show Steps p.tables e below (s₁.setTop (mkF m 5 #[.val (.ref t), .val (.int q), .val (.int (0 : Int32)), .val (.int (2 : Int32)), .val (.int (nar .byte q)), .unset] [(.int (0 : Int32))])) tgt
    refine XS.istore X0.here hx rfl (hb hby dd_jdk_43_method_23_5) rfl (l' := #[.val (.ref t), .val (.int q), .val (.int (0 : Int32)), .val (.int (2 : Int32)), .val (.int (nar .byte q)), .val (.int (0 : Int32))]) rfl ?_
    show Steps p.tables e below (s₁.setTop (mkF m 7 #[.val (.ref t), .val (.int q), .val (.int (0 : Int32)), .val (.int (2 : Int32)), .val (.int (nar .byte q)), .val (.int (0 : Int32))] [])) tgt
    refine XS.iload X0.here hx rfl (hb hby dd_jdk_43_method_23_7) rfl ?_
    show Steps p.tables e below (s₁.setTop (mkF m 9 #[.val (.ref t), .val (.int q), .val (.int (0 : Int32)), .val (.int (2 : Int32)), .val (.int (nar .byte q)), .val (.int (0 : Int32))] [(.int (0 : Int32))])) tgt
    refine XS.iloadN X0.here hx rfl (hb hby dd_jdk_43_method_23_9) rfl ?_
    show Steps p.tables e below (s₁.setTop (mkF m 10 #[.val (.ref t), .val (.int q), .val (.int (0 : Int32)), .val (.int (2 : Int32)), .val (.int (nar .byte q)), .val (.int (0 : Int32))] [(.int (2 : Int32)), (.int (0 : Int32))])) tgt
    refine XS.icmpNo X0.here hx rfl (hb hby dd_jdk_43_method_23_10) rfl (tlt (by decide : (0 : Int32) < (2 : Int32))).2.1 ?_
    show Steps p.tables e below (s₁.setTop (mkF m 13 #[.val (.ref t), .val (.int q), .val (.int (0 : Int32)), .val (.int (2 : Int32)), .val (.int (nar .byte q)), .val (.int (0 : Int32))] [])) tgt
    refine XS.aloadN X0.here hx rfl (hb hby dd_jdk_43_method_23_13) rfl rfl ?_
    show Steps p.tables e below (s₁.setTop (mkF m 14 #[.val (.ref t), .val (.int q), .val (.int (0 : Int32)), .val (.int (2 : Int32)), .val (.int (nar .byte q)), .val (.int (0 : Int32))] [(.ref t)])) tgt
    refine XS.iload X0.here hx rfl (hb hby dd_jdk_43_method_23_14) rfl ?_
    show Steps p.tables e below (s₁.setTop (mkF m 16 #[.val (.ref t), .val (.int q), .val (.int (0 : Int32)), .val (.int (2 : Int32)), .val (.int (nar .byte q)), .val (.int (0 : Int32))] [(.int (0 : Int32)), (.ref t)])) tgt
    obtain ⟨cl1, Ar1, q1, S1, M1, H1, G1⟩ := f0
    refine X0.baloadBytes hx (j := (0 : Int32)) (v := (.int (c0.toInt8.toInt32))) (by rw [e0]; exact Ar1.1) (State.isArrayOf_alike hZ.alike Ar1.2.1) Ar1.2.2 (inb_of S1 ⟨by decide, by decide⟩) (Has.at H1 (inb_of S1 ⟨by decide, by decide⟩) rfl) (g := (mkF m 16 #[.val (.ref t), .val (.int q), .val (.int (0 : Int32)), .val (.int (2 : Int32)), .val (.int (nar .byte q)), .val (.int (0 : Int32))] [(.int (0 : Int32)), (.ref t)])) rfl rfl (hb hby dd_jdk_43_method_23_16) _ ?_
    show Steps p.tables e below (s₁.setTop (mkF m 17 #[.val (.ref t), .val (.int q), .val (.int (0 : Int32)), .val (.int (2 : Int32)), .val (.int (nar .byte q)), .val (.int (0 : Int32))] [(.int (c0.toInt8.toInt32))])) tgt
    refine XS.iload X0.here hx rfl (hb hby dd_jdk_43_method_23_17) rfl ?_
    exact kgo
  by_cases cc2 : (c0.toInt8.toInt32) = (nar .byte q)
  · skip
    refine OwnGoes.step (T' := s₁) (g' := (mkF m 24 #[.val (.ref t), .val (.int q), .val (.int (0 : Int32)), .val (.int (2 : Int32)), .val (.int (nar .byte q)), .val (.int (0 : Int32))] [(.int (0 : Int32))])) (fun tgt kgo => ?_) ?_
    · show Steps p.tables e below (s₁.setTop (mkF m 19 #[.val (.ref t), .val (.int q), .val (.int (0 : Int32)), .val (.int (2 : Int32)), .val (.int (nar .byte q)), .val (.int (0 : Int32))] [(.int (nar .byte q)), (.int (c0.toInt8.toInt32))])) tgt
      refine XS.icmpNo X0.here hx rfl (hb hby dd_jdk_43_method_23_19) rfl (teq cc2).2 ?_
      show Steps p.tables e below (s₁.setTop (mkF m 22 #[.val (.ref t), .val (.int q), .val (.int (0 : Int32)), .val (.int (2 : Int32)), .val (.int (nar .byte q)), .val (.int (0 : Int32))] [])) tgt
      refine XS.iload X0.here hx rfl (hb hby dd_jdk_43_method_23_22) rfl ?_
      exact kgo
    refine own_leave X0 hlk (v := some (.int (0 : Int32))) (fun h => by rw [Bd.returns] at h; cases h) (fun fs hr => retI X0 hx Bd.returns (hb hby dd_jdk_43_method_23_24) hr) (by decide) (by decide) ?_
    show Q_ioc2 Z t k q c0 c1 h0 n0 _ s₁.heap _
    rw [e0]
    exact ⟨(0 : Int32), rfl, N0, rfl, (Or.inl ⟨(Or.inl ((own_byte_inj hc0 hq).mp cc2)), by decide⟩)⟩
  · skip
    refine OwnGoes.step (T' := s₁) (g' := (mkF m 19 #[.val (.ref t), .val (.int q), .val (.int (0 : Int32)), .val (.int (2 : Int32)), .val (.int (nar .byte q)), .val (.int (1 : Int32))] [(.int (nar .byte q)), (.int (c1.toInt8.toInt32))])) (fun tgt kgo => ?_) ?_
    · show Steps p.tables e below (s₁.setTop (mkF m 19 #[.val (.ref t), .val (.int q), .val (.int (0 : Int32)), .val (.int (2 : Int32)), .val (.int (nar .byte q)), .val (.int (0 : Int32))] [(.int (nar .byte q)), (.int (c0.toInt8.toInt32))])) tgt
      refine XS.icmpYes X0.here hx rfl (pc0 := 19) (pc' := 25) rfl (hb hby dd_jdk_43_method_23_19) rfl (feq cc2).2 (by decide) (by decide) ?_
      show Steps p.tables e below (s₁.setTop (mkF m 25 #[.val (.ref t), .val (.int q), .val (.int (0 : Int32)), .val (.int (2 : Int32)), .val (.int (nar .byte q)), .val (.int (0 : Int32))] [])) tgt
      refine XS.iinc X0.here hx rfl (hb hby dd_jdk_43_method_23_25) rfl (l' := #[.val (.ref t), .val (.int q), .val (.int (0 : Int32)), .val (.int (2 : Int32)), .val (.int (nar .byte q)), .val (.int (1 : Int32))]) rfl ?_
      show Steps p.tables e below (s₁.setTop (mkF m 28 #[.val (.ref t), .val (.int q), .val (.int (0 : Int32)), .val (.int (2 : Int32)), .val (.int (nar .byte q)), .val (.int (1 : Int32))] [])) tgt
      refine XS.goto X0.here hx rfl (pc0 := 28) (pc' := 7) rfl (hb hby dd_jdk_43_method_23_28) (by decide) (by decide) ?_
      show Steps p.tables e below (s₁.setTop (mkF m 7 #[.val (.ref t), .val (.int q), .val (.int (0 : Int32)), .val (.int (2 : Int32)), .val (.int (nar .byte q)), .val (.int (1 : Int32))] [])) tgt
      refine XS.iload X0.here hx rfl (hb hby dd_jdk_43_method_23_7) rfl ?_
      show Steps p.tables e below (s₁.setTop (mkF m 9 #[.val (.ref t), .val (.int q), .val (.int (0 : Int32)), .val (.int (2 : Int32)), .val (.int (nar .byte q)), .val (.int (1 : Int32))] [(.int (1 : Int32))])) tgt
      refine XS.iloadN X0.here hx rfl (hb hby dd_jdk_43_method_23_9) rfl ?_
      show Steps p.tables e below (s₁.setTop (mkF m 10 #[.val (.ref t), .val (.int q), .val (.int (0 : Int32)), .val (.int (2 : Int32)), .val (.int (nar .byte q)), .val (.int (1 : Int32))] [(.int (2 : Int32)), (.int (1 : Int32))])) tgt
      refine XS.icmpNo X0.here hx rfl (hb hby dd_jdk_43_method_23_10) rfl (tlt (by decide : (1 : Int32) < (2 : Int32))).2.1 ?_
      show Steps p.tables e below (s₁.setTop (mkF m 13 #[.val (.ref t), .val (.int q), .val (.int (0 : Int32)), .val (.int (2 : Int32)), .val (.int (nar .byte q)), .val (.int (1 : Int32))] [])) tgt
      refine XS.aloadN X0.here hx rfl (hb hby dd_jdk_43_method_23_13) rfl rfl ?_
      show Steps p.tables e below (s₁.setTop (mkF m 14 #[.val (.ref t), .val (.int q), .val (.int (0 : Int32)), .val (.int (2 : Int32)), .val (.int (nar .byte q)), .val (.int (1 : Int32))] [(.ref t)])) tgt
      refine XS.iload X0.here hx rfl (hb hby dd_jdk_43_method_23_14) rfl ?_
      show Steps p.tables e below (s₁.setTop (mkF m 16 #[.val (.ref t), .val (.int q), .val (.int (0 : Int32)), .val (.int (2 : Int32)), .val (.int (nar .byte q)), .val (.int (1 : Int32))] [(.int (1 : Int32)), (.ref t)])) tgt
      obtain ⟨cl4, Ar4, q4, S4, M4, H4, G4⟩ := f0
      refine X0.baloadBytes hx (j := (1 : Int32)) (v := (.int (c1.toInt8.toInt32))) (by rw [e0]; exact Ar4.1) (State.isArrayOf_alike hZ.alike Ar4.2.1) Ar4.2.2 (inb_of S4 ⟨by decide, by decide⟩) (Has.at H4 (inb_of S4 ⟨by decide, by decide⟩) rfl) (g := (mkF m 16 #[.val (.ref t), .val (.int q), .val (.int (0 : Int32)), .val (.int (2 : Int32)), .val (.int (nar .byte q)), .val (.int (1 : Int32))] [(.int (1 : Int32)), (.ref t)])) rfl rfl (hb hby dd_jdk_43_method_23_16) _ ?_
      show Steps p.tables e below (s₁.setTop (mkF m 17 #[.val (.ref t), .val (.int q), .val (.int (0 : Int32)), .val (.int (2 : Int32)), .val (.int (nar .byte q)), .val (.int (1 : Int32))] [(.int (c1.toInt8.toInt32))])) tgt
      refine XS.iload X0.here hx rfl (hb hby dd_jdk_43_method_23_17) rfl ?_
      exact kgo
    by_cases cc5 : (c1.toInt8.toInt32) = (nar .byte q)
    · skip
      refine OwnGoes.step (T' := s₁) (g' := (mkF m 24 #[.val (.ref t), .val (.int q), .val (.int (0 : Int32)), .val (.int (2 : Int32)), .val (.int (nar .byte q)), .val (.int (1 : Int32))] [(.int (1 : Int32))])) (fun tgt kgo => ?_) ?_
      · show Steps p.tables e below (s₁.setTop (mkF m 19 #[.val (.ref t), .val (.int q), .val (.int (0 : Int32)), .val (.int (2 : Int32)), .val (.int (nar .byte q)), .val (.int (1 : Int32))] [(.int (nar .byte q)), (.int (c1.toInt8.toInt32))])) tgt
        refine XS.icmpNo X0.here hx rfl (hb hby dd_jdk_43_method_23_19) rfl (teq cc5).2 ?_
        show Steps p.tables e below (s₁.setTop (mkF m 22 #[.val (.ref t), .val (.int q), .val (.int (0 : Int32)), .val (.int (2 : Int32)), .val (.int (nar .byte q)), .val (.int (1 : Int32))] [])) tgt
        refine XS.iload X0.here hx rfl (hb hby dd_jdk_43_method_23_22) rfl ?_
        exact kgo
      refine own_leave X0 hlk (v := some (.int (1 : Int32))) (fun h => by rw [Bd.returns] at h; cases h) (fun fs hr => retI X0 hx Bd.returns (hb hby dd_jdk_43_method_23_24) hr) (by decide) (by decide) ?_
      show Q_ioc2 Z t k q c0 c1 h0 n0 _ s₁.heap _
      rw [e0]
      exact ⟨(1 : Int32), rfl, N0, rfl, (Or.inl ⟨(Or.inr ((own_byte_inj hc1 hq).mp cc5)), by decide⟩)⟩
    · skip
      refine OwnGoes.step (T' := s₁) (g' := (mkF m 32 #[.val (.ref t), .val (.int q), .val (.int (0 : Int32)), .val (.int (2 : Int32)), .val (.int (nar .byte q)), .val (.int (2 : Int32))] [(.int (-1 : Int32))])) (fun tgt kgo => ?_) ?_
      · show Steps p.tables e below (s₁.setTop (mkF m 19 #[.val (.ref t), .val (.int q), .val (.int (0 : Int32)), .val (.int (2 : Int32)), .val (.int (nar .byte q)), .val (.int (1 : Int32))] [(.int (nar .byte q)), (.int (c1.toInt8.toInt32))])) tgt
        refine XS.icmpYes X0.here hx rfl (pc0 := 19) (pc' := 25) rfl (hb hby dd_jdk_43_method_23_19) rfl (feq cc5).2 (by decide) (by decide) ?_
        show Steps p.tables e below (s₁.setTop (mkF m 25 #[.val (.ref t), .val (.int q), .val (.int (0 : Int32)), .val (.int (2 : Int32)), .val (.int (nar .byte q)), .val (.int (1 : Int32))] [])) tgt
        refine XS.iinc X0.here hx rfl (hb hby dd_jdk_43_method_23_25) rfl (l' := #[.val (.ref t), .val (.int q), .val (.int (0 : Int32)), .val (.int (2 : Int32)), .val (.int (nar .byte q)), .val (.int (2 : Int32))]) rfl ?_
        show Steps p.tables e below (s₁.setTop (mkF m 28 #[.val (.ref t), .val (.int q), .val (.int (0 : Int32)), .val (.int (2 : Int32)), .val (.int (nar .byte q)), .val (.int (2 : Int32))] [])) tgt
        refine XS.goto X0.here hx rfl (pc0 := 28) (pc' := 7) rfl (hb hby dd_jdk_43_method_23_28) (by decide) (by decide) ?_
        show Steps p.tables e below (s₁.setTop (mkF m 7 #[.val (.ref t), .val (.int q), .val (.int (0 : Int32)), .val (.int (2 : Int32)), .val (.int (nar .byte q)), .val (.int (2 : Int32))] [])) tgt
        refine XS.iload X0.here hx rfl (hb hby dd_jdk_43_method_23_7) rfl ?_
        show Steps p.tables e below (s₁.setTop (mkF m 9 #[.val (.ref t), .val (.int q), .val (.int (0 : Int32)), .val (.int (2 : Int32)), .val (.int (nar .byte q)), .val (.int (2 : Int32))] [(.int (2 : Int32))])) tgt
        refine XS.iloadN X0.here hx rfl (hb hby dd_jdk_43_method_23_9) rfl ?_
        show Steps p.tables e below (s₁.setTop (mkF m 10 #[.val (.ref t), .val (.int q), .val (.int (0 : Int32)), .val (.int (2 : Int32)), .val (.int (nar .byte q)), .val (.int (2 : Int32))] [(.int (2 : Int32)), (.int (2 : Int32))])) tgt
        refine XS.icmpYes X0.here hx rfl (pc0 := 10) (pc' := 31) rfl (hb hby dd_jdk_43_method_23_10) rfl (flt (by decide : ¬ ((2 : Int32) < (2 : Int32)))).2.1 (by decide) (by decide) ?_
        show Steps p.tables e below (s₁.setTop (mkF m 31 #[.val (.ref t), .val (.int q), .val (.int (0 : Int32)), .val (.int (2 : Int32)), .val (.int (nar .byte q)), .val (.int (2 : Int32))] [])) tgt
        refine XS.iconst X0.here hx rfl (hb hby dd_jdk_43_method_23_31) ?_
        exact kgo
      have hno : ¬ (q = c0 ∨ q = c1) := by
        rintro (hz | hz)
        · exact cc2 ((own_byte_inj hc0 hq).mpr hz)
        · exact cc5 ((own_byte_inj hc1 hq).mpr hz)
      refine own_leave X0 hlk (v := some (.int (-1 : Int32))) (fun h => by rw [Bd.returns] at h; cases h) (fun fs hr => retI X0 hx Bd.returns (hb hby dd_jdk_43_method_23_32) hr) (by decide) (by decide) ?_
      show Q_ioc2 Z t k q c0 c1 h0 n0 _ s₁.heap _
      rw [e0]
      exact ⟨(-1 : Int32), rfl, N0, rfl, (Or.inr ⟨hno, by decide⟩)⟩
theorem ef_iol2 (m : MethodId) (x0 : Addr) (x1 : Int32) : entryFrame m #[(.ref x0), (.int x1), (.int (0 : Int32)), (.int (2 : Int32))] 4 = mkF m 0 #[.val (.ref x0), .val (.int x1), .val (.int (0 : Int32)), .val (.int (2 : Int32))] [] := by first | (simp [entryFrame, mkF, argsToLocals, Value.category]; done) | rfl
def Q_iol2 (Z : State) (t : Addr) (k : ClassId) (q : Int32) (c0 : Int32) (c1 : Int32) (h0 : Heap) (n0 : Nat) (v : Option Value) (h : Heap) (L : List Loc) : Prop := ∃ (r : Int32), v = some (.int r) ∧ Fr n0 L ∧ h = h0 ∧ (((q = c0 ∨ q = c1) ∧ ¬ r < 0) ∨ (¬ (q = c0 ∨ q = c1) ∧ r < 0))
set_option maxRecDepth 65536 in
set_option maxHeartbeats 40000000 in
theorem rm_iol2 (l : Launch) (Z : State) (a0 : Array Value) (hw : ∀ d ∈ tables_1, d.before a0 Z = true) (ws : List Jvm.Cond) (wG1 : Int32) (wO2 : Sta Z Z.heap "java/lang/String" "COMPACT_STRINGS" "Z" (.int wG1)) (wP5 : ¬ (wG1 = (0 : Int32))) (wG3 : Value) (wO4 : Sta Z Z.heap "jdk/internal/util/Preconditions" "SIOOBE_FORMATTER" "Ljava/util/function/BiFunction;" wG3) (wrG3 : wG3.isRef = true) (hstr : ∀ a ∈ Bundle.stringAtoms, a.before a0 Z = true) (hEL : EW Z a0 consts_1) (h0 : Heap) (n0 : Nat) (X00 : Old Z n0 h0) (t : Addr) (k : ClassId) (q : Int32) (c0 : Int32) (c1 : Int32) (f0 : Arv Z h0 t k .byte (2 : Int32) ((([c0, c1] : List Int32).map (fun c => c.toInt8.toInt32)).map Value.int) (.int (0 : Int32))) (hq : ¬ q < 0 ∧ ¬ (255 : Int32) < q) (hc0 : ¬ c0 < 0 ∧ ¬ (255 : Int32) < c0) (hc1 : ¬ c1 < 0 ∧ ¬ (255 : Int32) < c1) :
    MetFree l (⟨"java/lang/StringLatin1", "indexOf", "([BIII)I"⟩ : MethodName) (head1 (Jvm.Cond.code (⟨"java/lang/StringLatin1", "indexOf", "([BIII)I"⟩ : MethodName) jdk_43_method_22_code 4 (some .int) :: ws) ({ frames := 1, cells := 0, slots := 0, locals := 17 } : Room)) (fun a U => a = #[(.ref t), (.int q), (.int (0 : Int32)), (.int (2 : Int32))] ∧ Z.Warmed39 U.vm ∧ U.heap = h0) (fun _ _ _ _ _ => True) (fun _ U o U' => ∃ v L, o = .returned v ∧ Q_iol2 Z t k q c0 c1 h0 n0 v U'.heap L ∧ FrameEnd U o U' L ({ frames := 1, cells := 0, slots := 0, locals := 17 } : Room).cells ({ frames := 1, cells := 0, slots := 0, locals := 17 } : Room).slots) := by
  refine MetFree.of_bodySF (plainFor_of_name pn_54843740) hisR ?_
  intro p e s m args below meth c s₁ Bd hml0 hP hK
  obtain ⟨rfl, hZ, hh⟩ := hP
  have hx := Bd.exec
  have hby := Bd.bytes
  have hlk := Bd.notSynchronized
  have hml : c.maxLocals = 4 := hml0
  have hown : s.vm.findClass "java/lang/StringLatin1" = some m.cls := findClass_of_methodNamed Bd.named
  have hnm := (name_of_methodNamed Bd.named Bd.method).1
  have X0 : Stand p l e ({ frames := 1, cells := 0, slots := 0, locals := 17 } : Room) s m #[(.ref t), (.int q), (.int (0 : Int32)), (.int (2 : Int32))] below meth c s₁ [] 0 0 := Stand.of_body Bd
  have e0 : s₁.heap = h0 := by rw [← hh, Bd.state]; rfl
  have N0 := Fr.nil n0
  have Z0 : n0 ≤ h0.size := X00.1 ▸ X00.2.1
  have K0 : Keep h0 h0 ([] : List Addr) := Keep.refl _ _
  show OwnGoes p e below (fun o U' => ∃ v L, o = .returned v ∧ Q_iol2 Z t k q c0 c1 h0 n0 v U'.heap L ∧ FrameEnd s o U' L ({ frames := 1, cells := 0, slots := 0, locals := 17 } : Room).cells ({ frames := 1, cells := 0, slots := 0, locals := 17 } : Room).slots) s₁ (entryFrame m #[(.ref t), (.int q), (.int (0 : Int32)), (.int (2 : Int32))] 4)
  refine OwnGoes.step (T' := s₁) (g' := (mkF m 0 #[.val (.ref t), .val (.int q), .val (.int (0 : Int32)), .val (.int (2 : Int32))] [])) (fun tgt kgo => castTop (ef_iol2 m t q) kgo) ?_
  refine OwnGoes.step (T' := s₁) (g' := (mkF m 1 #[.val (.ref t), .val (.int q), .val (.int (0 : Int32)), .val (.int (2 : Int32))] [(.int q)])) (fun tgt kgo => ?_) ?_
  · show Steps p.tables e below (s₁.setTop (mkF m 0 #[.val (.ref t), .val (.int q), .val (.int (0 : Int32)), .val (.int (2 : Int32))] [])) tgt
    refine XS.iloadN X0.here hx rfl (hb hby dd_jdk_43_method_22_0) rfl ?_
    exact kgo
  obtain ⟨_, _, ⟨T1, L1, k1, n1⟩, -, X1, ⟨Lc1, hQ1, l1, y1, z1⟩, st1⟩ := Jvm.LawKit.callS X0 hx (y := (⟨"java/lang/StringLatin1", "canEncode", "(I)Z"⟩ : MethodName)) hown (mvT hZ (hw _ (List.mem_of_getElem? (i := 111) rfl))) (mvT hZ (hw _ (List.mem_of_getElem? (i := 112) rfl))) (mvT hZ (hw _ (List.mem_of_getElem? (i := 39) rfl))) (mvT hZ (hw _ (List.mem_of_getElem? (i := 113) rfl))) (by decide) (backOf (W := 0) (rm_cei l Z a0 hw [] wG1 wO2 wP5 wG3 wO4 wrG3 hstr hEL h0 n0 X00 q hq) hZ (hw _ (List.mem_of_getElem? (i := 113) rfl)) (hw _ (List.mem_of_getElem? (i := 39) rfl)) (by decide) (by decide)) (g := (mkF m 1 #[.val (.ref t), .val (.int q), .val (.int (0 : Int32)), .val (.int (2 : Int32))] [(.int q)])) rfl (by rw [hml]; rfl) (argsL := [(.int q)]) (rest := []) (lenOf pd_1097859 rfl) rfl (by show 2 * 0 + _ ≤ _; exact Nat.le_of_eq rfl) (hb hby dd_jdk_43_method_22_1) (fun _ _ => ⟨rfl, e0, (by decide : 0 + 0 ≤ _), (by decide : 0 + 0 ≤ _)⟩)
  dsimp only [Pt.U, Pt.locs, Pt.cells, Pt.slots] at X1 l1 y1 z1 st1 hQ1
  subst l1 y1 z1
  obtain ⟨rfl, Nq1, eq1⟩ := hQ1
  refine OwnGoes.step (T' := T1) (g' := (mkF m 4 #[.val (.ref t), .val (.int q), .val (.int (0 : Int32)), .val (.int (2 : Int32))] [(.int (1 : Int32))])) st1 ?_
  have N1 := Fr.app N0 Nq1
  refine OwnGoes.step (T' := T1) (g' := (mkF m 11 #[.val (.ref t), .val (.int q), .val (.int (0 : Int32)), .val (.int (2 : Int32))] [(.int (0 : Int32)), (.int (0 : Int32))])) (fun tgt kgo => ?_) ?_
  · show Steps p.tables e below (T1.setTop (mkF m 4 #[.val (.ref t), .val (.int q), .val (.int (0 : Int32)), .val (.int (2 : Int32))] [(.int (1 : Int32))])) tgt
    refine XS.ifYes X1.here hx rfl (pc0 := 4) (pc' := 9) rfl (hb hby dd_jdk_43_method_22_4) rfl ((if0 _ _).trans (feq (by decide : ¬ ((1 : Int32) = (0 : Int32)))).2) (by decide) (by decide) ?_
    show Steps p.tables e below (T1.setTop (mkF m 9 #[.val (.ref t), .val (.int q), .val (.int (0 : Int32)), .val (.int (2 : Int32))] [])) tgt
    refine XS.iloadN X1.here hx rfl (hb hby dd_jdk_43_method_22_9) rfl ?_
    show Steps p.tables e below (T1.setTop (mkF m 10 #[.val (.ref t), .val (.int q), .val (.int (0 : Int32)), .val (.int (2 : Int32))] [(.int (0 : Int32))])) tgt
    refine XS.iconst X1.here hx rfl (hb hby dd_jdk_43_method_22_10) ?_
    exact kgo
  obtain ⟨_, _, ⟨T2, L2, k2, n2⟩, -, X2, ⟨Lc2, hQ2, l2, y2, z2⟩, st2⟩ := Jvm.LawKit.callS X1 hx (y := (⟨"java/lang/Math", "max", "(II)I"⟩ : MethodName)) hown (mvT hZ (hw _ (List.mem_of_getElem? (i := 114) rfl))) (mvT hZ (hw _ (List.mem_of_getElem? (i := 115) rfl))) (mvT hZ (hw _ (List.mem_of_getElem? (i := 116) rfl))) (mvT hZ (hw _ (List.mem_of_getElem? (i := 117) rfl))) (by decide) (backOf (W := 0) (rm_max0 l Z a0 hw [] wG1 wO2 wP5 wG3 wO4 wrG3 hstr hEL h0 n0 X00 ) hZ (hw _ (List.mem_of_getElem? (i := 117) rfl)) (hw _ (List.mem_of_getElem? (i := 116) rfl)) (by decide) (by decide)) (g := (mkF m 11 #[.val (.ref t), .val (.int q), .val (.int (0 : Int32)), .val (.int (2 : Int32))] [(.int (0 : Int32)), (.int (0 : Int32))])) rfl (by rw [hml]; rfl) (argsL := [(.int (0 : Int32)), (.int (0 : Int32))]) (rest := []) (lenOf pd_50523903 rfl) rfl (by show 2 * 0 + _ ≤ _; exact Nat.le_of_eq rfl) (hb hby dd_jdk_43_method_22_11) (fun _ _ => ⟨rfl, eq1, (by decide : 0 + 0 ≤ _), (by decide : 0 + 0 ≤ _)⟩)
  dsimp only [Pt.U, Pt.locs, Pt.cells, Pt.slots] at X2 l2 y2 z2 st2 hQ2
  subst l2 y2 z2
  obtain ⟨rfl, Nq2, eq2⟩ := hQ2
  refine OwnGoes.step (T' := T2) (g' := (mkF m 14 #[.val (.ref t), .val (.int q), .val (.int (0 : Int32)), .val (.int (2 : Int32))] [(.int (0 : Int32))])) st2 ?_
  have N2 := Fr.app N1 Nq2
  refine OwnGoes.step (T' := T2) (g' := (mkF m 18 #[.val (.ref t), .val (.int q), .val (.int (0 : Int32)), .val (.int (2 : Int32))] [(.int (2 : Int32)), (.int (2 : Int32))])) (fun tgt kgo => ?_) ?_
  · show Steps p.tables e below (T2.setTop (mkF m 14 #[.val (.ref t), .val (.int q), .val (.int (0 : Int32)), .val (.int (2 : Int32))] [(.int (0 : Int32))])) tgt
    refine XS.istoreN X2.here hx rfl (hb hby dd_jdk_43_method_22_14) rfl (l' := #[.val (.ref t), .val (.int q), .val (.int (0 : Int32)), .val (.int (2 : Int32))]) rfl ?_
    show Steps p.tables e below (T2.setTop (mkF m 15 #[.val (.ref t), .val (.int q), .val (.int (0 : Int32)), .val (.int (2 : Int32))] [])) tgt
    refine XS.iloadN X2.here hx rfl (hb hby dd_jdk_43_method_22_15) rfl ?_
    show Steps p.tables e below (T2.setTop (mkF m 16 #[.val (.ref t), .val (.int q), .val (.int (0 : Int32)), .val (.int (2 : Int32))] [(.int (2 : Int32))])) tgt
    refine XS.aloadN X2.here hx rfl (hb hby dd_jdk_43_method_22_16) rfl rfl ?_
    show Steps p.tables e below (T2.setTop (mkF m 17 #[.val (.ref t), .val (.int q), .val (.int (0 : Int32)), .val (.int (2 : Int32))] [(.ref t), (.int (2 : Int32))])) tgt
    obtain ⟨cl3, Ar3, q3, S3, M3, -, -⟩ := f0
    refine X2.arraylength hx (by rw [eq2]; exact Ar3.1) (State.isArrayOf_alike hZ.alike Ar3.2.1) (g := (mkF m 17 #[.val (.ref t), .val (.int q), .val (.int (0 : Int32)), .val (.int (2 : Int32))] [(.ref t), (.int (2 : Int32))])) rfl rfl (hb hby dd_jdk_43_method_22_17) _ ?_
    rw [len_of S3 M3]
    exact kgo
  obtain ⟨_, _, ⟨T4, L4, k4, n4⟩, -, X4, ⟨Lc4, hQ4, l4, y4, z4⟩, st4⟩ := Jvm.LawKit.callS X2 hx (y := (⟨"java/lang/Math", "min", "(II)I"⟩ : MethodName)) hown (mvT hZ (hw _ (List.mem_of_getElem? (i := 118) rfl))) (mvT hZ (hw _ (List.mem_of_getElem? (i := 119) rfl))) (mvT hZ (hw _ (List.mem_of_getElem? (i := 116) rfl))) (mvT hZ (hw _ (List.mem_of_getElem? (i := 120) rfl))) (by decide) (backOf (W := 0) (rm_min2 l Z a0 hw [] wG1 wO2 wP5 wG3 wO4 wrG3 hstr hEL h0 n0 X00 ) hZ (hw _ (List.mem_of_getElem? (i := 120) rfl)) (hw _ (List.mem_of_getElem? (i := 116) rfl)) (by decide) (by decide)) (g := (mkF m 18 #[.val (.ref t), .val (.int q), .val (.int (0 : Int32)), .val (.int (2 : Int32))] [(.int (2 : Int32)), (.int (2 : Int32))])) rfl (by rw [hml]; rfl) (argsL := [(.int (2 : Int32)), (.int (2 : Int32))]) (rest := []) (lenOf pd_50523903 rfl) rfl (by show 2 * 0 + _ ≤ _; exact Nat.le_of_eq rfl) (hb hby dd_jdk_43_method_22_18) (fun _ _ => ⟨rfl, eq2, (by decide : 0 + 0 ≤ _), (by decide : 0 + 0 ≤ _)⟩)
  dsimp only [Pt.U, Pt.locs, Pt.cells, Pt.slots] at X4 l4 y4 z4 st4 hQ4
  subst l4 y4 z4
  obtain ⟨rfl, Nq4, eq4⟩ := hQ4
  refine OwnGoes.step (T' := T4) (g' := (mkF m 21 #[.val (.ref t), .val (.int q), .val (.int (0 : Int32)), .val (.int (2 : Int32))] [(.int (2 : Int32))])) st4 ?_
  have N4 := Fr.app N2 Nq4
  refine OwnGoes.step (T' := T4) (g' := (mkF m 33 #[.val (.ref t), .val (.int q), .val (.int (0 : Int32)), .val (.int (2 : Int32))] [(.int (2 : Int32)), (.int (0 : Int32)), (.int q), (.ref t)])) (fun tgt kgo => ?_) ?_
  · show Steps p.tables e below (T4.setTop (mkF m 21 #[.val (.ref t), .val (.int q), .val (.int (0 : Int32)), .val (.int (2 : Int32))] [(.int (2 : Int32))])) tgt
    refine XS.istoreN X4.here hx rfl (hb hby dd_jdk_43_method_22_21) rfl (l' := #[.val (.ref t), .val (.int q), .val (.int (0 : Int32)), .val (.int (2 : Int32))]) rfl ?_
    show Steps p.tables e below (T4.setTop (mkF m 22 #[.val (.ref t), .val (.int q), .val (.int (0 : Int32)), .val (.int (2 : Int32))] [])) tgt
    refine XS.iloadN X4.here hx rfl (hb hby dd_jdk_43_method_22_22) rfl ?_
    show Steps p.tables e below (T4.setTop (mkF m 23 #[.val (.ref t), .val (.int q), .val (.int (0 : Int32)), .val (.int (2 : Int32))] [(.int (0 : Int32))])) tgt
    refine XS.iloadN X4.here hx rfl (hb hby dd_jdk_43_method_22_23) rfl ?_
    show Steps p.tables e below (T4.setTop (mkF m 24 #[.val (.ref t), .val (.int q), .val (.int (0 : Int32)), .val (.int (2 : Int32))] [(.int (2 : Int32)), (.int (0 : Int32))])) tgt
    refine XS.icmpYes X4.here hx rfl (pc0 := 24) (pc' := 29) rfl (hb hby dd_jdk_43_method_22_24) rfl (tlt (by decide : (0 : Int32) < (2 : Int32))).1 (by decide) (by decide) ?_
    show Steps p.tables e below (T4.setTop (mkF m 29 #[.val (.ref t), .val (.int q), .val (.int (0 : Int32)), .val (.int (2 : Int32))] [])) tgt
    refine XS.aloadN X4.here hx rfl (hb hby dd_jdk_43_method_22_29) rfl rfl ?_
    show Steps p.tables e below (T4.setTop (mkF m 30 #[.val (.ref t), .val (.int q), .val (.int (0 : Int32)), .val (.int (2 : Int32))] [(.ref t)])) tgt
    refine XS.iloadN X4.here hx rfl (hb hby dd_jdk_43_method_22_30) rfl ?_
    show Steps p.tables e below (T4.setTop (mkF m 31 #[.val (.ref t), .val (.int q), .val (.int (0 : Int32)), .val (.int (2 : Int32))] [(.int q), (.ref t)])) tgt
    refine XS.iloadN X4.here hx rfl (hb hby dd_jdk_43_method_22_31) rfl ?_
    show Steps p.tables e below (T4.setTop (mkF m 32 #[.val (.ref t), .val (.int q), .val (.int (0 : Int32)), .val (.int (2 : Int32))] [(.int (0 : Int32)), (.int q), (.ref t)])) tgt
    refine XS.iloadN X4.here hx rfl (hb hby dd_jdk_43_method_22_32) rfl ?_
    exact kgo
  obtain ⟨_, _, ⟨T5, L5, k5, n5⟩, -, X5, ⟨Lc5, hQ5, l5, y5, z5⟩, st5⟩ := Jvm.LawKit.callS X4 hx (y := (⟨"java/lang/StringLatin1", "indexOfChar", "([BIII)I"⟩ : MethodName)) hown (mvT hZ (hw _ (List.mem_of_getElem? (i := 121) rfl))) (mvT hZ (hw _ (List.mem_of_getElem? (i := 122) rfl))) (mvT hZ (hw _ (List.mem_of_getElem? (i := 39) rfl))) (mvT hZ (hw _ (List.mem_of_getElem? (i := 123) rfl))) (by decide) (backOf (W := 0) (rm_ioc2 l Z a0 hw [] wG1 wO2 wP5 wG3 wO4 wrG3 hstr hEL h0 n0 X00 t k q c0 c1 f0 hq hc0 hc1) hZ (hw _ (List.mem_of_getElem? (i := 123) rfl)) (hw _ (List.mem_of_getElem? (i := 39) rfl)) (by decide) (by decide)) (g := (mkF m 33 #[.val (.ref t), .val (.int q), .val (.int (0 : Int32)), .val (.int (2 : Int32))] [(.int (2 : Int32)), (.int (0 : Int32)), (.int q), (.ref t)])) rfl (by rw [hml]; rfl) (argsL := [(.ref t), (.int q), (.int (0 : Int32)), (.int (2 : Int32))]) (rest := []) (lenOf pd_68989375 rfl) rfl (by show 2 * 0 + _ ≤ _; exact Nat.le_of_eq rfl) (hb hby dd_jdk_43_method_22_33) (fun _ _ => ⟨rfl, eq4, (by decide : 0 + 0 ≤ _), (by decide : 0 + 0 ≤ _)⟩)
  dsimp only [Pt.U, Pt.locs, Pt.cells, Pt.slots] at X5 l5 y5 z5 st5 hQ5
  subst l5 y5 z5
  obtain ⟨r_5, rfl, Nq5, eq5, pq5_0⟩ := hQ5
  refine OwnGoes.step (T' := T5) (g' := (mkF m 36 #[.val (.ref t), .val (.int q), .val (.int (0 : Int32)), .val (.int (2 : Int32))] [(.int r_5)])) st5 ?_
  have N5 := Fr.app N4 Nq5
  refine own_leave X5 hlk (v := some (.int r_5)) (fun h => by rw [Bd.returns] at h; cases h) (fun fs hr => retI X5 hx Bd.returns (hb hby dd_jdk_43_method_22_36) hr) (by decide) (by decide) ?_
  show Q_iol2 Z t k q c0 c1 h0 n0 _ T5.heap _
  rw [eq5]
  exact ⟨r_5, rfl, N5, rfl, pq5_0⟩
theorem ef_io2_2 (m : MethodId) (x0 : Addr) (x1 : Int32) : entryFrame m #[(.ref x0), (.int x1), (.int (0 : Int32))] 3 = mkF m 0 #[.val (.ref x0), .val (.int x1), .val (.int (0 : Int32))] [] := by first | (simp [entryFrame, mkF, argsToLocals, Value.category]; done) | rfl
def Q_io2_2 (Z : State) (a1 : Addr) (t : Addr) (k : ClassId) (q : Int32) (c0 : Int32) (c1 : Int32) (h0 : Heap) (n0 : Nat) (v : Option Value) (h : Heap) (L : List Loc) : Prop := ∃ (r : Int32), v = some (.int r) ∧ Fr n0 L ∧ h = h0 ∧ (((q = c0 ∨ q = c1) ∧ ¬ r < 0) ∨ (¬ (q = c0 ∨ q = c1) ∧ r < 0))
set_option maxRecDepth 65536 in
set_option maxHeartbeats 40000000 in
theorem rm_io2_2 (l : Launch) (Z : State) (a0 : Array Value) (hw : ∀ d ∈ tables_1, d.before a0 Z = true) (ws : List Jvm.Cond) (wG1 : Int32) (wO2 : Sta Z Z.heap "java/lang/String" "COMPACT_STRINGS" "Z" (.int wG1)) (wP5 : ¬ (wG1 = (0 : Int32))) (wG3 : Value) (wO4 : Sta Z Z.heap "jdk/internal/util/Preconditions" "SIOOBE_FORMATTER" "Ljava/util/function/BiFunction;" wG3) (wrG3 : wG3.isRef = true) (hstr : ∀ a ∈ Bundle.stringAtoms, a.before a0 Z = true) (hEL : EW Z a0 consts_1) (h0 : Heap) (n0 : Nat) (X00 : Old Z n0 h0) (a1 : Addr) (t : Addr) (k : ClassId) (q : Int32) (c0 : Int32) (c1 : Int32) (f0 : Exa Z h0 a1 "java/lang/String") (f1 : Fld Z h0 a1 "java/lang/String" "value" "[B" (.ref t)) (f2 : Fld Z h0 a1 "java/lang/String" "coder" "B" (.int (0 : Int32))) (f3 : Arv Z h0 t k .byte (2 : Int32) ((([c0, c1] : List Int32).map (fun c => c.toInt8.toInt32)).map Value.int) (.int (0 : Int32))) (hq : ¬ q < 0 ∧ ¬ (255 : Int32) < q) (hc0 : ¬ c0 < 0 ∧ ¬ (255 : Int32) < c0) (hc1 : ¬ c1 < 0 ∧ ¬ (255 : Int32) < c1) :
    MetFree l (⟨"java/lang/String", "indexOf", "(II)I"⟩ : MethodName) (head1 (Jvm.Cond.code (⟨"java/lang/String", "indexOf", "(II)I"⟩ : MethodName) jdk_42_method_80_code 3 (some .int) :: ws) ({ frames := 2, cells := 0, slots := 0, locals := 32 } : Room)) (fun a U => a = #[(.ref a1), (.int q), (.int (0 : Int32))] ∧ Z.Warmed39 U.vm ∧ U.heap = h0) (fun _ _ _ _ _ => True) (fun _ U o U' => ∃ v L, o = .returned v ∧ Q_io2_2 Z a1 t k q c0 c1 h0 n0 v U'.heap L ∧ FrameEnd U o U' L ({ frames := 2, cells := 0, slots := 0, locals := 32 } : Room).cells ({ frames := 2, cells := 0, slots := 0, locals := 32 } : Room).slots) := by
  refine MetFree.of_bodySF (plainFor_of_name pn_52039224) hisR ?_
  intro p e s m args below meth c s₁ Bd hml0 hP hK
  obtain ⟨rfl, hZ, hh⟩ := hP
  have hx := Bd.exec
  have hby := Bd.bytes
  have hlk := Bd.notSynchronized
  have hml : c.maxLocals = 3 := hml0
  have hown : s.vm.findClass "java/lang/String" = some m.cls := findClass_of_methodNamed Bd.named
  have hnm := (name_of_methodNamed Bd.named Bd.method).1
  have X0 : Stand p l e ({ frames := 2, cells := 0, slots := 0, locals := 32 } : Room) s m #[(.ref a1), (.int q), (.int (0 : Int32))] below meth c s₁ [] 0 0 := Stand.of_body Bd
  have e0 : s₁.heap = h0 := by rw [← hh, Bd.state]; rfl
  have N0 := Fr.nil n0
  have Z0 : n0 ≤ h0.size := X00.1 ▸ X00.2.1
  have K0 : Keep h0 h0 ([] : List Addr) := Keep.refl _ _
  show OwnGoes p e below (fun o U' => ∃ v L, o = .returned v ∧ Q_io2_2 Z a1 t k q c0 c1 h0 n0 v U'.heap L ∧ FrameEnd s o U' L ({ frames := 2, cells := 0, slots := 0, locals := 32 } : Room).cells ({ frames := 2, cells := 0, slots := 0, locals := 32 } : Room).slots) s₁ (entryFrame m #[(.ref a1), (.int q), (.int (0 : Int32))] 3)
  refine OwnGoes.step (T' := s₁) (g' := (mkF m 0 #[.val (.ref a1), .val (.int q), .val (.int (0 : Int32))] [])) (fun tgt kgo => castTop (ef_io2_2 m a1 q) kgo) ?_
  refine OwnGoes.step (T' := s₁) (g' := (mkF m 1 #[.val (.ref a1), .val (.int q), .val (.int (0 : Int32))] [(.ref a1)])) (fun tgt kgo => ?_) ?_
  · show Steps p.tables e below (s₁.setTop (mkF m 0 #[.val (.ref a1), .val (.int q), .val (.int (0 : Int32))] [])) tgt
    refine XS.aloadN X0.here hx rfl (hb hby dd_jdk_42_method_80_0) rfl rfl ?_
    exact kgo
  obtain ⟨cq1, kq1, q1a, q1b, q1c⟩ := isOf (s := s) hZ e0 f0
  obtain ⟨_, _, ⟨T1, L1, k1, n1⟩, -, X1, ⟨Lc1, hQ1, l1, y1, z1⟩, st1⟩ := X0.virtualBack hx (y := (⟨"java/lang/String", "isLatin1", "()Z"⟩ : MethodName)) (z := (⟨"java/lang/String", "isLatin1", "()Z"⟩ : MethodName)) hown (mvT hZ (hw _ (List.mem_of_getElem? (i := 93) rfl))) (mvT hZ (hw _ (List.mem_of_getElem? (i := 94) rfl))) (notFace_of_selects (args := #[]) (mvT hZ (hw _ (List.mem_of_getElem? (i := 96) rfl)))) (mvT hZ (hw _ (List.mem_of_getElem? (i := 96) rfl))) (mvT hZ (hw _ (List.mem_of_getElem? (i := 95) rfl))) (by decide) (backOf (W := 0) (rm_isl l Z a0 hw [] wG1 wO2 wP5 wG3 wO4 wrG3 hstr hEL h0 n0 X00 a1 f2) hZ (hw _ (List.mem_of_getElem? (i := 97) rfl)) (hw _ (List.mem_of_getElem? (i := 6) rfl)) (by decide) (by decide)) q1a q1c (g := (mkF m 1 #[.val (.ref a1), .val (.int q), .val (.int (0 : Int32))] [(.ref a1)])) rfl (by rw [hml]; rfl) (Steps.refl _) (argsL := []) (rest := []) (lenOf pd_15861835 rfl) rfl (by show 2 * 0 + _ ≤ _; exact Nat.le_of_eq rfl) (hb hby dd_jdk_42_method_80_1) (fun _ _ => ⟨rfl, e0, (by decide : 0 + 0 ≤ _), (by decide : 0 + 0 ≤ _)⟩)
  dsimp only [Pt.U, Pt.locs, Pt.cells, Pt.slots] at X1 l1 y1 z1 st1 hQ1
  subst l1 y1 z1
  obtain ⟨rfl, Nq1, eq1⟩ := hQ1
  refine OwnGoes.tr (T' := T1) (g' := (mkF m 4 #[.val (.ref a1), .val (.int q), .val (.int (0 : Int32))] [(.int (1 : Int32))])) st1 ?_
  have N1 := Fr.app N0 Nq1
  refine OwnGoes.step (T' := T1) (g' := (mkF m 8 #[.val (.ref a1), .val (.int q), .val (.int (0 : Int32))] [(.ref a1)])) (fun tgt kgo => ?_) ?_
  · show Steps p.tables e below (T1.setTop (mkF m 4 #[.val (.ref a1), .val (.int q), .val (.int (0 : Int32))] [(.int (1 : Int32))])) tgt
    refine XS.ifNo X1.here hx rfl (hb hby dd_jdk_42_method_80_4) rfl ((if0 _ _).trans (feq (by decide : ¬ ((1 : Int32) = (0 : Int32)))).1) ?_
    show Steps p.tables e below (T1.setTop (mkF m 7 #[.val (.ref a1), .val (.int q), .val (.int (0 : Int32))] [])) tgt
    refine XS.aloadN X1.here hx rfl (hb hby dd_jdk_42_method_80_7) rfl rfl ?_
    exact kgo
  obtain ⟨T2, X2, e2, st2⟩ := getF X1 hx hZ hown (host := "") (Or.inl (hw _ (List.mem_of_getElem? (i := 32) rfl))) Via.refl eq1 f1 (g := (mkF m 8 #[.val (.ref a1), .val (.int q), .val (.int (0 : Int32))] [(.ref a1)])) rfl rfl (hb hby dd_jdk_42_method_80_8)
  refine OwnGoes.step (T' := T2) (g' := (mkF m 11 #[.val (.ref a1), .val (.int q), .val (.int (0 : Int32))] [(.ref t)])) st2 ?_
  refine OwnGoes.step (T' := T2) (g' := (mkF m 14 #[.val (.ref a1), .val (.int q), .val (.int (0 : Int32))] [(.ref a1), (.int (0 : Int32)), (.int q), (.ref t)])) (fun tgt kgo => ?_) ?_
  · show Steps p.tables e below (T2.setTop (mkF m 11 #[.val (.ref a1), .val (.int q), .val (.int (0 : Int32))] [(.ref t)])) tgt
    refine XS.iloadN X2.here hx rfl (hb hby dd_jdk_42_method_80_11) rfl ?_
    show Steps p.tables e below (T2.setTop (mkF m 12 #[.val (.ref a1), .val (.int q), .val (.int (0 : Int32))] [(.int q), (.ref t)])) tgt
    refine XS.iloadN X2.here hx rfl (hb hby dd_jdk_42_method_80_12) rfl ?_
    show Steps p.tables e below (T2.setTop (mkF m 13 #[.val (.ref a1), .val (.int q), .val (.int (0 : Int32))] [(.int (0 : Int32)), (.int q), (.ref t)])) tgt
    refine XS.aloadN X2.here hx rfl (hb hby dd_jdk_42_method_80_13) rfl rfl ?_
    exact kgo
  obtain ⟨cq3, kq3, q3a, q3b, q3c⟩ := isOf (s := s) hZ e2 f0
  obtain ⟨_, _, ⟨T3, L3, k3, n3⟩, -, X3, ⟨Lc3, hQ3, l3, y3, z3⟩, st3⟩ := X2.virtualBack hx (y := (⟨"java/lang/String", "length", "()I"⟩ : MethodName)) (z := (⟨"java/lang/String", "length", "()I"⟩ : MethodName)) hown (mvT hZ (hw _ (List.mem_of_getElem? (i := 98) rfl))) (mvT hZ (hw _ (List.mem_of_getElem? (i := 99) rfl))) (notFace_of_selects (args := #[]) (mvT hZ (hw _ (List.mem_of_getElem? (i := 101) rfl)))) (mvT hZ (hw _ (List.mem_of_getElem? (i := 101) rfl))) (mvT hZ (hw _ (List.mem_of_getElem? (i := 100) rfl))) (by decide) (backOf (W := 3) (rm_len2 l Z a0 hw [] wG1 wO2 wP5 wG3 wO4 wrG3 hstr hEL h0 n0 X00 a1 t k c0 c1 f0 f1 f2 f3) hZ (hw _ (List.mem_of_getElem? (i := 102) rfl)) (hw _ (List.mem_of_getElem? (i := 6) rfl)) (by decide) (by decide)) q3a q3c (g := (mkF m 14 #[.val (.ref a1), .val (.int q), .val (.int (0 : Int32))] [(.ref a1), (.int (0 : Int32)), (.int q), (.ref t)])) rfl (by rw [hml]; rfl) (Steps.refl _) (argsL := []) (rest := [(.int (0 : Int32)), (.int q), (.ref t)]) (lenOf pd_86913941 rfl) rfl (by show 2 * 0 + _ ≤ _; exact Nat.le_of_eq rfl) (hb hby dd_jdk_42_method_80_14) (fun _ _ => ⟨rfl, e2, (by decide : 0 + 0 ≤ _), (by decide : 0 + 0 ≤ _)⟩)
  dsimp only [Pt.U, Pt.locs, Pt.cells, Pt.slots] at X3 l3 y3 z3 st3 hQ3
  subst l3 y3 z3
  obtain ⟨rfl, Nq3, eq3⟩ := hQ3
  refine OwnGoes.tr (T' := T3) (g' := (mkF m 17 #[.val (.ref a1), .val (.int q), .val (.int (0 : Int32))] [(.int (2 : Int32)), (.int (0 : Int32)), (.int q), (.ref t)])) st3 ?_
  have N3 := Fr.app N1 Nq3
  obtain ⟨_, _, ⟨T4, L4, k4, n4⟩, -, X4, ⟨Lc4, hQ4, l4, y4, z4⟩, st4⟩ := Jvm.LawKit.callS X3 hx (y := (⟨"java/lang/StringLatin1", "indexOf", "([BIII)I"⟩ : MethodName)) hown (mvT hZ (hw _ (List.mem_of_getElem? (i := 108) rfl))) (mvT hZ (hw _ (List.mem_of_getElem? (i := 109) rfl))) (mvT hZ (hw _ (List.mem_of_getElem? (i := 39) rfl))) (mvT hZ (hw _ (List.mem_of_getElem? (i := 110) rfl))) (by decide) (backOf (W := 0) (rm_iol2 l Z a0 hw [] wG1 wO2 wP5 wG3 wO4 wrG3 hstr hEL h0 n0 X00 t k q c0 c1 f3 hq hc0 hc1) hZ (hw _ (List.mem_of_getElem? (i := 110) rfl)) (hw _ (List.mem_of_getElem? (i := 39) rfl)) (by decide) (by decide)) (g := (mkF m 17 #[.val (.ref a1), .val (.int q), .val (.int (0 : Int32))] [(.int (2 : Int32)), (.int (0 : Int32)), (.int q), (.ref t)])) rfl (by rw [hml]; rfl) (argsL := [(.ref t), (.int q), (.int (0 : Int32)), (.int (2 : Int32))]) (rest := []) (lenOf pd_68989375 rfl) rfl (by show 2 * 0 + _ ≤ _; exact Nat.le_of_eq rfl) (hb hby dd_jdk_42_method_80_17) (fun _ _ => ⟨rfl, eq3, (by decide : 0 + 0 ≤ _), (by decide : 0 + 0 ≤ _)⟩)
  dsimp only [Pt.U, Pt.locs, Pt.cells, Pt.slots] at X4 l4 y4 z4 st4 hQ4
  subst l4 y4 z4
  obtain ⟨r_4, rfl, Nq4, eq4, pq4_0⟩ := hQ4
  refine OwnGoes.step (T' := T4) (g' := (mkF m 20 #[.val (.ref a1), .val (.int q), .val (.int (0 : Int32))] [(.int r_4)])) st4 ?_
  have N4 := Fr.app N3 Nq4
  refine OwnGoes.step (T' := T4) (g' := (mkF m 36 #[.val (.ref a1), .val (.int q), .val (.int (0 : Int32))] [(.int r_4)])) (fun tgt kgo => ?_) ?_
  · show Steps p.tables e below (T4.setTop (mkF m 20 #[.val (.ref a1), .val (.int q), .val (.int (0 : Int32))] [(.int r_4)])) tgt
    refine XS.goto X4.here hx rfl (pc0 := 20) (pc' := 36) rfl (hb hby dd_jdk_42_method_80_20) (by decide) (by decide) ?_
    exact kgo
  refine own_leave X4 hlk (v := some (.int r_4)) (fun h => by rw [Bd.returns] at h; cases h) (fun fs hr => retI X4 hx Bd.returns (hb hby dd_jdk_42_method_80_36) hr) (by decide) (by decide) ?_
  show Q_io2_2 Z a1 t k q c0 c1 h0 n0 _ T4.heap _
  rw [eq4]
  exact ⟨r_4, rfl, N4, rfl, pq4_0⟩
theorem ef_io1_2 (m : MethodId) (x0 : Addr) (x1 : Int32) : entryFrame m #[(.ref x0), (.int x1)] 2 = mkF m 0 #[.val (.ref x0), .val (.int x1)] [] := by first | (simp [entryFrame, mkF, argsToLocals, Value.category]; done) | rfl
def Q_io1_2 (Z : State) (a1 : Addr) (t : Addr) (k : ClassId) (q : Int32) (c0 : Int32) (c1 : Int32) (h0 : Heap) (n0 : Nat) (v : Option Value) (h : Heap) (L : List Loc) : Prop := ∃ (r : Int32), v = some (.int r) ∧ Fr n0 L ∧ h = h0 ∧ (((q = c0 ∨ q = c1) ∧ ¬ r < 0) ∨ (¬ (q = c0 ∨ q = c1) ∧ r < 0))
set_option maxRecDepth 65536 in
set_option maxHeartbeats 40000000 in
theorem rm_io1_2 (l : Launch) (Z : State) (a0 : Array Value) (hw : ∀ d ∈ tables_1, d.before a0 Z = true) (ws : List Jvm.Cond) (wG1 : Int32) (wO2 : Sta Z Z.heap "java/lang/String" "COMPACT_STRINGS" "Z" (.int wG1)) (wP5 : ¬ (wG1 = (0 : Int32))) (wG3 : Value) (wO4 : Sta Z Z.heap "jdk/internal/util/Preconditions" "SIOOBE_FORMATTER" "Ljava/util/function/BiFunction;" wG3) (wrG3 : wG3.isRef = true) (hstr : ∀ a ∈ Bundle.stringAtoms, a.before a0 Z = true) (hEL : EW Z a0 consts_1) (h0 : Heap) (n0 : Nat) (X00 : Old Z n0 h0) (a1 : Addr) (t : Addr) (k : ClassId) (q : Int32) (c0 : Int32) (c1 : Int32) (f0 : Exa Z h0 a1 "java/lang/String") (f1 : Fld Z h0 a1 "java/lang/String" "value" "[B" (.ref t)) (f2 : Fld Z h0 a1 "java/lang/String" "coder" "B" (.int (0 : Int32))) (f3 : Arv Z h0 t k .byte (2 : Int32) ((([c0, c1] : List Int32).map (fun c => c.toInt8.toInt32)).map Value.int) (.int (0 : Int32))) (hq : ¬ q < 0 ∧ ¬ (255 : Int32) < q) (hc0 : ¬ c0 < 0 ∧ ¬ (255 : Int32) < c0) (hc1 : ¬ c1 < 0 ∧ ¬ (255 : Int32) < c1) :
    MetFree l (⟨"java/lang/String", "indexOf", "(I)I"⟩ : MethodName) (head1 (Jvm.Cond.code (⟨"java/lang/String", "indexOf", "(I)I"⟩ : MethodName) jdk_42_method_79_code 2 (some .int) :: ws) ({ frames := 3, cells := 0, slots := 0, locals := 46 } : Room)) (fun a U => a = #[(.ref a1), (.int q)] ∧ Z.Warmed39 U.vm ∧ U.heap = h0) (fun _ _ _ _ _ => True) (fun _ U o U' => ∃ v L, o = .returned v ∧ Q_io1_2 Z a1 t k q c0 c1 h0 n0 v U'.heap L ∧ FrameEnd U o U' L ({ frames := 3, cells := 0, slots := 0, locals := 46 } : Room).cells ({ frames := 3, cells := 0, slots := 0, locals := 46 } : Room).slots) := by
  refine MetFree.of_bodySF (plainFor_of_name pn_52039224) hisR ?_
  intro p e s m args below meth c s₁ Bd hml0 hP hK
  obtain ⟨rfl, hZ, hh⟩ := hP
  have hx := Bd.exec
  have hby := Bd.bytes
  have hlk := Bd.notSynchronized
  have hml : c.maxLocals = 2 := hml0
  have hown : s.vm.findClass "java/lang/String" = some m.cls := findClass_of_methodNamed Bd.named
  have hnm := (name_of_methodNamed Bd.named Bd.method).1
  have X0 : Stand p l e ({ frames := 3, cells := 0, slots := 0, locals := 46 } : Room) s m #[(.ref a1), (.int q)] below meth c s₁ [] 0 0 := Stand.of_body Bd
  have e0 : s₁.heap = h0 := by rw [← hh, Bd.state]; rfl
  have N0 := Fr.nil n0
  have Z0 : n0 ≤ h0.size := X00.1 ▸ X00.2.1
  have K0 : Keep h0 h0 ([] : List Addr) := Keep.refl _ _
  show OwnGoes p e below (fun o U' => ∃ v L, o = .returned v ∧ Q_io1_2 Z a1 t k q c0 c1 h0 n0 v U'.heap L ∧ FrameEnd s o U' L ({ frames := 3, cells := 0, slots := 0, locals := 46 } : Room).cells ({ frames := 3, cells := 0, slots := 0, locals := 46 } : Room).slots) s₁ (entryFrame m #[(.ref a1), (.int q)] 2)
  refine OwnGoes.step (T' := s₁) (g' := (mkF m 0 #[.val (.ref a1), .val (.int q)] [])) (fun tgt kgo => castTop (ef_io1_2 m a1 q) kgo) ?_
  refine OwnGoes.step (T' := s₁) (g' := (mkF m 3 #[.val (.ref a1), .val (.int q)] [(.int (0 : Int32)), (.int q), (.ref a1)])) (fun tgt kgo => ?_) ?_
  · show Steps p.tables e below (s₁.setTop (mkF m 0 #[.val (.ref a1), .val (.int q)] [])) tgt
    refine XS.aloadN X0.here hx rfl (hb hby dd_jdk_42_method_79_0) rfl rfl ?_
    show Steps p.tables e below (s₁.setTop (mkF m 1 #[.val (.ref a1), .val (.int q)] [(.ref a1)])) tgt
    refine XS.iloadN X0.here hx rfl (hb hby dd_jdk_42_method_79_1) rfl ?_
    show Steps p.tables e below (s₁.setTop (mkF m 2 #[.val (.ref a1), .val (.int q)] [(.int q), (.ref a1)])) tgt
    refine XS.iconst X0.here hx rfl (hb hby dd_jdk_42_method_79_2) ?_
    exact kgo
  obtain ⟨cq1, kq1, q1a, q1b, q1c⟩ := isOf (s := s) hZ e0 f0
  obtain ⟨_, _, ⟨T1, L1, k1, n1⟩, -, X1, ⟨Lc1, hQ1, l1, y1, z1⟩, st1⟩ := X0.virtualBack hx (y := (⟨"java/lang/String", "indexOf", "(II)I"⟩ : MethodName)) (z := (⟨"java/lang/String", "indexOf", "(II)I"⟩ : MethodName)) hown (mvT hZ (hw _ (List.mem_of_getElem? (i := 88) rfl))) (mvT hZ (hw _ (List.mem_of_getElem? (i := 89) rfl))) (notFace_of_selects (args := #[]) (mvT hZ (hw _ (List.mem_of_getElem? (i := 91) rfl)))) (mvT hZ (hw _ (List.mem_of_getElem? (i := 91) rfl))) (mvT hZ (hw _ (List.mem_of_getElem? (i := 90) rfl))) (by decide) (backOf (W := 0) (rm_io2_2 l Z a0 hw [] wG1 wO2 wP5 wG3 wO4 wrG3 hstr hEL h0 n0 X00 a1 t k q c0 c1 f0 f1 f2 f3 hq hc0 hc1) hZ (hw _ (List.mem_of_getElem? (i := 92) rfl)) (hw _ (List.mem_of_getElem? (i := 6) rfl)) (by decide) (by decide)) q1a q1c (g := (mkF m 3 #[.val (.ref a1), .val (.int q)] [(.int (0 : Int32)), (.int q), (.ref a1)])) rfl (by rw [hml]; rfl) (Steps.refl _) (argsL := [(.int q), (.int (0 : Int32))]) (rest := []) (lenOf pd_50523903 rfl) rfl (by show 2 * 0 + _ ≤ _; exact Nat.le_of_eq rfl) (hb hby dd_jdk_42_method_79_3) (fun _ _ => ⟨rfl, e0, (by decide : 0 + 0 ≤ _), (by decide : 0 + 0 ≤ _)⟩)
  dsimp only [Pt.U, Pt.locs, Pt.cells, Pt.slots] at X1 l1 y1 z1 st1 hQ1
  subst l1 y1 z1
  obtain ⟨r_1, rfl, Nq1, eq1, pq1_0⟩ := hQ1
  refine OwnGoes.tr (T' := T1) (g' := (mkF m 6 #[.val (.ref a1), .val (.int q)] [(.int r_1)])) st1 ?_
  have N1 := Fr.app N0 Nq1
  refine own_leave X1 hlk (v := some (.int r_1)) (fun h => by rw [Bd.returns] at h; cases h) (fun fs hr => retI X1 hx Bd.returns (hb hby dd_jdk_42_method_79_6) hr) (by decide) (by decide) ?_
  show Q_io1_2 Z a1 t k q c0 c1 h0 n0 _ T1.heap _
  rw [eq1]
  exact ⟨r_1, rfl, N1, rfl, pq1_0⟩
theorem ef_alw2 (m : MethodId) (x0 : Addr) (x1 : Int32) : entryFrame m #[(.ref x0), (.int x1)] 2 = mkF m 0 #[.val (.ref x0), .val (.int x1)] [] := by first | (simp [entryFrame, mkF, argsToLocals, Value.category]; done) | rfl
def Q_alw2 (Z : State) (o1 : Addr) (a1 : Addr) (t : Addr) (k : ClassId) (q : Int32) (c0 : Int32) (c1 : Int32) (h0 : Heap) (n0 : Nat) (v : Option Value) (h : Heap) (L : List Loc) : Prop := ∃ (r : Int32), v = some (.int r) ∧ Fr n0 L ∧ h = h0 ∧ (((q = c0 ∨ q = c1) ∧ r = 1) ∨ (¬ (q = c0 ∨ q = c1) ∧ r = 0))
set_option maxRecDepth 65536 in
set_option maxHeartbeats 40000000 in
theorem rm_alw2 (l : Launch) (Z : State) (a0 : Array Value) (hw : ∀ d ∈ tables_1, d.before a0 Z = true) (ws : List Jvm.Cond) (wG1 : Int32) (wO2 : Sta Z Z.heap "java/lang/String" "COMPACT_STRINGS" "Z" (.int wG1)) (wP5 : ¬ (wG1 = (0 : Int32))) (wG3 : Value) (wO4 : Sta Z Z.heap "jdk/internal/util/Preconditions" "SIOOBE_FORMATTER" "Ljava/util/function/BiFunction;" wG3) (wrG3 : wG3.isRef = true) (hstr : ∀ a ∈ Bundle.stringAtoms, a.before a0 Z = true) (hEL : EW Z a0 consts_1) (h0 : Heap) (n0 : Nat) (X00 : Old Z n0 h0) (o1 : Addr) (a1 : Addr) (t : Addr) (k : ClassId) (q : Int32) (c0 : Int32) (c1 : Int32) (f0 : Fld Z h0 o1 "com/example/fieldwright/fieldwright/FieldStructure" "subfields" "Ljava/lang/String;" (.ref a1)) (f1 : Exa Z h0 a1 "java/lang/String") (f2 : Fld Z h0 a1 "java/lang/String" "value" "[B" (.ref t)) (f3 : Fld Z h0 a1 "java/lang/String" "coder" "B" (.int (0 : Int32))) (f4 : Arv Z h0 t k .byte (2 : Int32) ((([c0, c1] : List Int32).map (fun c => c.toInt8.toInt32)).map Value.int) (.int (0 : Int32))) (hq : ¬ q < 0 ∧ ¬ (255 : Int32) < q) (hc0 : ¬ c0 < 0 ∧ ¬ (255 : Int32) < c0) (hc1 : ¬ c1 < 0 ∧ ¬ (255 : Int32) < c1) :
    MetFree l (⟨"com/example/fieldwright/fieldwright/FieldStructure", "allows", "(C)Z"⟩ : MethodName) (head1 (Jvm.Cond.code (⟨"com/example/fieldwright/fieldwright/FieldStructure", "allows", "(C)Z"⟩ : MethodName) prog_18_method_6_code 2 (some .boolean) :: ws) ({ frames := 4, cells := 0, slots := 0, locals := 59 } : Room)) (fun a U => a = #[(.ref o1), (.int q)] ∧ Z.Warmed39 U.vm ∧ U.heap = h0) (fun _ _ _ _ _ => True) (fun _ U o U' => ∃ v L, o = .returned v ∧ Q_alw2 Z o1 a1 t k q c0 c1 h0 n0 v U'.heap L ∧ FrameEnd U o U' L ({ frames := 4, cells := 0, slots := 0, locals := 59 } : Room).cells ({ frames := 4, cells := 0, slots := 0, locals := 59 } : Room).slots) := by
  refine MetFree.of_bodySF (plainFor_of_name pn_85196114) hisR ?_
  intro p e s m args below meth c s₁ Bd hml0 hP hK
  obtain ⟨rfl, hZ, hh⟩ := hP
  have hx := Bd.exec
  have hby := Bd.bytes
  have hlk := Bd.notSynchronized
  have hml : c.maxLocals = 2 := hml0
  have hown : s.vm.findClass "com/example/fieldwright/fieldwright/FieldStructure" = some m.cls := findClass_of_methodNamed Bd.named
  have hnm := (name_of_methodNamed Bd.named Bd.method).1
  have X0 : Stand p l e ({ frames := 4, cells := 0, slots := 0, locals := 59 } : Room) s m #[(.ref o1), (.int q)] below meth c s₁ [] 0 0 := Stand.of_body Bd
  have e0 : s₁.heap = h0 := by rw [← hh, Bd.state]; rfl
  have N0 := Fr.nil n0
  have Z0 : n0 ≤ h0.size := X00.1 ▸ X00.2.1
  have K0 : Keep h0 h0 ([] : List Addr) := Keep.refl _ _
  show OwnGoes p e below (fun o U' => ∃ v L, o = .returned v ∧ Q_alw2 Z o1 a1 t k q c0 c1 h0 n0 v U'.heap L ∧ FrameEnd s o U' L ({ frames := 4, cells := 0, slots := 0, locals := 59 } : Room).cells ({ frames := 4, cells := 0, slots := 0, locals := 59 } : Room).slots) s₁ (entryFrame m #[(.ref o1), (.int q)] 2)
  refine OwnGoes.step (T' := s₁) (g' := (mkF m 0 #[.val (.ref o1), .val (.int q)] [])) (fun tgt kgo => castTop (ef_alw2 m o1 q) kgo) ?_
  refine OwnGoes.step (T' := s₁) (g' := (mkF m 1 #[.val (.ref o1), .val (.int q)] [(.ref o1)])) (fun tgt kgo => ?_) ?_
  · show Steps p.tables e below (s₁.setTop (mkF m 0 #[.val (.ref o1), .val (.int q)] [])) tgt
    refine XS.aloadN X0.here hx rfl (hb hby dd_prog_18_method_6_0) rfl rfl ?_
    exact kgo
  obtain ⟨T1, X1, e1, st1⟩ := getF X0 hx hZ hown (host := "") (Or.inl (hw _ (List.mem_of_getElem? (i := 74) rfl))) Via.refl e0 f0 (g := (mkF m 1 #[.val (.ref o1), .val (.int q)] [(.ref o1)])) rfl rfl (hb hby dd_prog_18_method_6_1)
  refine OwnGoes.step (T' := T1) (g' := (mkF m 4 #[.val (.ref o1), .val (.int q)] [(.ref a1)])) st1 ?_
  refine OwnGoes.step (T' := T1) (g' := (mkF m 5 #[.val (.ref o1), .val (.int q)] [(.int q), (.ref a1)])) (fun tgt kgo => ?_) ?_
  · show Steps p.tables e below (T1.setTop (mkF m 4 #[.val (.ref o1), .val (.int q)] [(.ref a1)])) tgt
    refine XS.iloadN X1.here hx rfl (hb hby dd_prog_18_method_6_4) rfl ?_
    exact kgo
  obtain ⟨cq2, kq2, q2a, q2b, q2c⟩ := isOf (s := s) hZ e1 f1
  obtain ⟨_, _, ⟨T2, L2, k2, n2⟩, -, X2, ⟨Lc2, hQ2, l2, y2, z2⟩, st2⟩ := X1.virtualBack hx (y := (⟨"java/lang/String", "indexOf", "(I)I"⟩ : MethodName)) (z := (⟨"java/lang/String", "indexOf", "(I)I"⟩ : MethodName)) hown (mvT hZ (hw _ (List.mem_of_getElem? (i := 83) rfl))) (mvT hZ (hw _ (List.mem_of_getElem? (i := 84) rfl))) (notFace_of_selects (args := #[]) (mvT hZ (hw _ (List.mem_of_getElem? (i := 86) rfl)))) (mvT hZ (hw _ (List.mem_of_getElem? (i := 86) rfl))) (mvT hZ (hw _ (List.mem_of_getElem? (i := 85) rfl))) (by decide) (backOf (W := 0) (rm_io1_2 l Z a0 hw [] wG1 wO2 wP5 wG3 wO4 wrG3 hstr hEL h0 n0 X00 a1 t k q c0 c1 f1 f2 f3 f4 hq hc0 hc1) hZ (hw _ (List.mem_of_getElem? (i := 87) rfl)) (hw _ (List.mem_of_getElem? (i := 6) rfl)) (by decide) (by decide)) q2a q2c (g := (mkF m 5 #[.val (.ref o1), .val (.int q)] [(.int q), (.ref a1)])) rfl (by rw [hml]; rfl) (Steps.refl _) (argsL := [(.int q)]) (rest := []) (lenOf pd_92649053 rfl) rfl (by show 2 * 0 + _ ≤ _; exact Nat.le_of_eq rfl) (hb hby dd_prog_18_method_6_5) (fun _ _ => ⟨rfl, e1, (by decide : 0 + 0 ≤ _), (by decide : 0 + 0 ≤ _)⟩)
  dsimp only [Pt.U, Pt.locs, Pt.cells, Pt.slots] at X2 l2 y2 z2 st2 hQ2
  subst l2 y2 z2
  obtain ⟨r_2, rfl, Nq2, eq2, pq2_0⟩ := hQ2
  refine OwnGoes.tr (T' := T2) (g' := (mkF m 8 #[.val (.ref o1), .val (.int q)] [(.int r_2)])) st2 ?_
  have N2 := Fr.app N0 Nq2
  by_cases cc3 : r_2 < (0 : Int32)
  · skip
    refine OwnGoes.step (T' := T2) (g' := (mkF m 16 #[.val (.ref o1), .val (.int q)] [(.int (0 : Int32))])) (fun tgt kgo => ?_) ?_
    · show Steps p.tables e below (T2.setTop (mkF m 8 #[.val (.ref o1), .val (.int q)] [(.int r_2)])) tgt
      refine XS.ifYes X2.here hx rfl (pc0 := 8) (pc' := 15) rfl (hb hby dd_prog_18_method_6_8) rfl ((if0 _ _).trans (tlt cc3).1) (by decide) (by decide) ?_
      show Steps p.tables e below (T2.setTop (mkF m 15 #[.val (.ref o1), .val (.int q)] [])) tgt
      refine XS.iconst X2.here hx rfl (hb hby dd_prog_18_method_6_15) ?_
      exact kgo
    refine own_leave X2 hlk (v := some (.int (0 : Int32))) (fun h => by rw [Bd.returns] at h; cases h) (fun fs hr => retN X2 hx (t := .boolean) Bd.returns (by simp) (hb hby dd_prog_18_method_6_16) (by rw [(by decide : nar .boolean (0 : Int32) = (0 : Int32))]; exact hr)) (by decide) (by decide) ?_
    show Q_alw2 Z o1 a1 t k q c0 c1 h0 n0 _ T2.heap _
    rw [eq2]
    exact ⟨(0 : Int32), rfl, N2, rfl, (Or.inr ⟨(pq2_0.resolve_left fun z => z.2 cc3).1, rfl⟩)⟩
  · skip
    refine OwnGoes.step (T' := T2) (g' := (mkF m 16 #[.val (.ref o1), .val (.int q)] [(.int (1 : Int32))])) (fun tgt kgo => ?_) ?_
    · show Steps p.tables e below (T2.setTop (mkF m 8 #[.val (.ref o1), .val (.int q)] [(.int r_2)])) tgt
      refine XS.ifNo X2.here hx rfl (hb hby dd_prog_18_method_6_8) rfl ((if0 _ _).trans (flt cc3).1) ?_
      show Steps p.tables e below (T2.setTop (mkF m 11 #[.val (.ref o1), .val (.int q)] [])) tgt
      refine XS.iconst X2.here hx rfl (hb hby dd_prog_18_method_6_11) ?_
      show Steps p.tables e below (T2.setTop (mkF m 12 #[.val (.ref o1), .val (.int q)] [(.int (1 : Int32))])) tgt
      refine XS.goto X2.here hx rfl (pc0 := 12) (pc' := 16) rfl (hb hby dd_prog_18_method_6_12) (by decide) (by decide) ?_
      exact kgo
    refine own_leave X2 hlk (v := some (.int (1 : Int32))) (fun h => by rw [Bd.returns] at h; cases h) (fun fs hr => retN X2 hx (t := .boolean) Bd.returns (by simp) (hb hby dd_prog_18_method_6_16) (by rw [(by decide : nar .boolean (1 : Int32) = (1 : Int32))]; exact hr)) (by decide) (by decide) ?_
    show Q_alw2 Z o1 a1 t k q c0 c1 h0 n0 _ T2.heap _
    rw [eq2]
    exact ⟨(1 : Int32), rfl, N2, rfl, (Or.inl ⟨(pq2_0.resolve_right fun z => cc3 z.2).1, rfl⟩)⟩
theorem ef_len3 (m : MethodId) (x0 : Addr) : entryFrame m #[(.ref x0)] 1 = mkF m 0 #[.val (.ref x0)] [] := by first | (simp [entryFrame, mkF, argsToLocals, Value.category]; done) | rfl
def Q_len3 (Z : State) (a1 : Addr) (t : Addr) (k : ClassId) (c0 : Int32) (c1 : Int32) (c2 : Int32) (h0 : Heap) (n0 : Nat) (v : Option Value) (h : Heap) (L : List Loc) : Prop := v = some (.int (3 : Int32)) ∧ Fr n0 L ∧ h = h0
set_option maxRecDepth 65536 in
set_option maxHeartbeats 40000000 in
theorem rm_len3 (l : Launch) (Z : State) (a0 : Array Value) (hw : ∀ d ∈ tables_1, d.before a0 Z = true) (ws : List Jvm.Cond) (wG1 : Int32) (wO2 : Sta Z Z.heap "java/lang/String" "COMPACT_STRINGS" "Z" (.int wG1)) (wP5 : ¬ (wG1 = (0 : Int32))) (wG3 : Value) (wO4 : Sta Z Z.heap "jdk/internal/util/Preconditions" "SIOOBE_FORMATTER" "Ljava/util/function/BiFunction;" wG3) (wrG3 : wG3.isRef = true) (hstr : ∀ a ∈ Bundle.stringAtoms, a.before a0 Z = true) (hEL : EW Z a0 consts_1) (h0 : Heap) (n0 : Nat) (X00 : Old Z n0 h0) (a1 : Addr) (t : Addr) (k : ClassId) (c0 : Int32) (c1 : Int32) (c2 : Int32) (f0 : Exa Z h0 a1 "java/lang/String") (f1 : Fld Z h0 a1 "java/lang/String" "value" "[B" (.ref t)) (f2 : Fld Z h0 a1 "java/lang/String" "coder" "B" (.int (0 : Int32))) (f3 : Arv Z h0 t k .byte (3 : Int32) ((([c0, c1, c2] : List Int32).map (fun c => c.toInt8.toInt32)).map Value.int) (.int (0 : Int32))) :
    MetFree l (⟨"java/lang/String", "length", "()I"⟩ : MethodName) (head1 (Jvm.Cond.code (⟨"java/lang/String", "length", "()I"⟩ : MethodName) jdk_42_method_54_code 1 (some .int) :: ws) ({ frames := 1, cells := 0, slots := 0, locals := 13 } : Room)) (fun a U => a = #[(.ref a1)] ∧ Z.Warmed39 U.vm ∧ U.heap = h0) (fun _ _ _ _ _ => True) (fun _ U o U' => ∃ v L, o = .returned v ∧ Q_len3 Z a1 t k c0 c1 c2 h0 n0 v U'.heap L ∧ FrameEnd U o U' L ({ frames := 1, cells := 0, slots := 0, locals := 13 } : Room).cells ({ frames := 1, cells := 0, slots := 0, locals := 13 } : Room).slots) := by
  refine MetFree.of_bodySF (plainFor_of_name pn_52039224) hisR ?_
  intro p e s m args below meth c s₁ Bd hml0 hP hK
  obtain ⟨rfl, hZ, hh⟩ := hP
  have hx := Bd.exec
  have hby := Bd.bytes
  have hlk := Bd.notSynchronized
  have hml : c.maxLocals = 1 := hml0
  have hown : s.vm.findClass "java/lang/String" = some m.cls := findClass_of_methodNamed Bd.named
  have hnm := (name_of_methodNamed Bd.named Bd.method).1
  have X0 : Stand p l e ({ frames := 1, cells := 0, slots := 0, locals := 13 } : Room) s m #[(.ref a1)] below meth c s₁ [] 0 0 := Stand.of_body Bd
  have e0 : s₁.heap = h0 := by rw [← hh, Bd.state]; rfl
  have N0 := Fr.nil n0
  have Z0 : n0 ≤ h0.size := X00.1 ▸ X00.2.1
  have K0 : Keep h0 h0 ([] : List Addr) := Keep.refl _ _
  show OwnGoes p e below (fun o U' => ∃ v L, o = .returned v ∧ Q_len3 Z a1 t k c0 c1 c2 h0 n0 v U'.heap L ∧ FrameEnd s o U' L ({ frames := 1, cells := 0, slots := 0, locals := 13 } : Room).cells ({ frames := 1, cells := 0, slots := 0, locals := 13 } : Room).slots) s₁ (entryFrame m #[(.ref a1)] 1)
  refine OwnGoes.step (T' := s₁) (g' := (mkF m 0 #[.val (.ref a1)] [])) (fun tgt kgo => castTop (ef_len3 m a1) kgo) ?_
  refine OwnGoes.step (T' := s₁) (g' := (mkF m 1 #[.val (.ref a1)] [(.ref a1)])) (fun tgt kgo => ?_) ?_
  · show Steps p.tables e below (s₁.setTop (mkF m 0 #[.val (.ref a1)] [])) tgt
    refine XS.aloadN X0.here hx rfl (hb hby dd_jdk_42_method_54_0) rfl rfl ?_
    exact kgo
  obtain ⟨T1, X1, e1, st1⟩ := getF X0 hx hZ hown (host := "") (Or.inl (hw _ (List.mem_of_getElem? (i := 32) rfl))) Via.refl e0 f1 (g := (mkF m 1 #[.val (.ref a1)] [(.ref a1)])) rfl rfl (hb hby dd_jdk_42_method_54_1)
  refine OwnGoes.step (T' := T1) (g' := (mkF m 4 #[.val (.ref a1)] [(.ref t)])) st1 ?_
  refine OwnGoes.step (T' := T1) (g' := (mkF m 6 #[.val (.ref a1)] [(.ref a1), (.int (3 : Int32))])) (fun tgt kgo => ?_) ?_
  · show Steps p.tables e below (T1.setTop (mkF m 4 #[.val (.ref a1)] [(.ref t)])) tgt
    obtain ⟨cl2, Ar2, q2, S2, M2, -, -⟩ := f3
    refine X1.arraylength hx (by rw [e1]; exact Ar2.1) (State.isArrayOf_alike hZ.alike Ar2.2.1) (g := (mkF m 4 #[.val (.ref a1)] [(.ref t)])) rfl rfl (hb hby dd_jdk_42_method_54_4) _ ?_
    rw [len_of S2 M2]
    show Steps p.tables e below (T1.setTop (mkF m 5 #[.val (.ref a1)] [(.int (3 : Int32))])) tgt
    refine XS.aloadN X1.here hx rfl (hb hby dd_jdk_42_method_54_5) rfl rfl ?_
    exact kgo
  obtain ⟨cq3, kq3, q3a, q3b, q3c⟩ := isOf (s := s) hZ e1 f0
  obtain ⟨_, _, ⟨T3, L3, k3, n3⟩, -, X3, ⟨Lc3, hQ3, l3, y3, z3⟩, st3⟩ := X1.virtualBack hx (y := (⟨"java/lang/String", "coder", "()B"⟩ : MethodName)) (z := (⟨"java/lang/String", "coder", "()B"⟩ : MethodName)) hown (mvT hZ (hw _ (List.mem_of_getElem? (i := 103) rfl))) (mvT hZ (hw _ (List.mem_of_getElem? (i := 104) rfl))) (notFace_of_selects (args := #[]) (mvT hZ (hw _ (List.mem_of_getElem? (i := 106) rfl)))) (mvT hZ (hw _ (List.mem_of_getElem? (i := 106) rfl))) (mvT hZ (hw _ (List.mem_of_getElem? (i := 105) rfl))) (by decide) (backOf (W := 1) (rm_cod l Z a0 hw [] wG1 wO2 wP5 wG3 wO4 wrG3 hstr hEL h0 n0 X00 a1 f2) hZ (hw _ (List.mem_of_getElem? (i := 107) rfl)) (hw _ (List.mem_of_getElem? (i := 6) rfl)) (by decide) (by decide)) q3a q3c (g := (mkF m 6 #[.val (.ref a1)] [(.ref a1), (.int (3 : Int32))])) rfl (by rw [hml]; rfl) (Steps.refl _) (argsL := []) (rest := [(.int (3 : Int32))]) (lenOf pd_61459997 rfl) rfl (by show 2 * 0 + _ ≤ _; exact Nat.le_of_eq rfl) (hb hby dd_jdk_42_method_54_6) (fun _ _ => ⟨rfl, e1, (by decide : 0 + 0 ≤ _), (by decide : 0 + 0 ≤ _)⟩)
  dsimp only [Pt.U, Pt.locs, Pt.cells, Pt.slots] at X3 l3 y3 z3 st3 hQ3
  subst l3 y3 z3
  obtain ⟨rfl, Nq3, eq3⟩ := hQ3
  refine OwnGoes.tr (T' := T3) (g' := (mkF m 9 #[.val (.ref a1)] [(.int (0 : Int32)), (.int (3 : Int32))])) st3 ?_
  have N3 := Fr.app N0 Nq3
  refine OwnGoes.step (T' := T3) (g' := (mkF m 10 #[.val (.ref a1)] [(.int (3 : Int32))])) (fun tgt kgo => ?_) ?_
  · show Steps p.tables e below (T3.setTop (mkF m 9 #[.val (.ref a1)] [(.int (0 : Int32)), (.int (3 : Int32))])) tgt
    refine XS.ishr X3.here hx rfl (hb hby dd_jdk_42_method_54_9) rfl ?_
    exact kgo
  refine own_leave X3 hlk (v := some (.int (3 : Int32))) (fun h => by rw [Bd.returns] at h; cases h) (fun fs hr => retI X3 hx Bd.returns (hb hby dd_jdk_42_method_54_10) hr) (by decide) (by decide) ?_
  show Q_len3 Z a1 t k c0 c1 c2 h0 n0 _ T3.heap _
  rw [eq3]
  exact ⟨rfl, N3, rfl⟩
theorem ef_min3 (m : MethodId)  : entryFrame m #[(.int (3 : Int32)), (.int (3 : Int32))] 2 = mkF m 0 #[.val (.int (3 : Int32)), .val (.int (3 : Int32))] [] := by first | (simp [entryFrame, mkF, argsToLocals, Value.category]; done) | rfl
def Q_min3 (Z : State)  (h0 : Heap) (n0 : Nat) (v : Option Value) (h : Heap) (L : List Loc) : Prop := v = some (.int (3 : Int32)) ∧ Fr n0 L ∧ h = h0
set_option maxRecDepth 65536 in
set_option maxHeartbeats 40000000 in
theorem rm_min3 (l : Launch) (Z : State) (a0 : Array Value) (hw : ∀ d ∈ tables_1, d.before a0 Z = true) (ws : List Jvm.Cond) (wG1 : Int32) (wO2 : Sta Z Z.heap "java/lang/String" "COMPACT_STRINGS" "Z" (.int wG1)) (wP5 : ¬ (wG1 = (0 : Int32))) (wG3 : Value) (wO4 : Sta Z Z.heap "jdk/internal/util/Preconditions" "SIOOBE_FORMATTER" "Ljava/util/function/BiFunction;" wG3) (wrG3 : wG3.isRef = true) (hstr : ∀ a ∈ Bundle.stringAtoms, a.before a0 Z = true) (hEL : EW Z a0 consts_1) (h0 : Heap) (n0 : Nat) (X00 : Old Z n0 h0)  :
    MetFree l (⟨"java/lang/Math", "min", "(II)I"⟩ : MethodName) (head1 (Jvm.Cond.code (⟨"java/lang/Math", "min", "(II)I"⟩ : MethodName) jdk_29_method_69_code 2 (some .int) :: ws) ({ frames := 0, cells := 0, slots := 0, locals := 0 } : Room)) (fun a U => a = #[(.int (3 : Int32)), (.int (3 : Int32))] ∧ Z.Warmed39 U.vm ∧ U.heap = h0) (fun _ _ _ _ _ => True) (fun _ U o U' => ∃ v L, o = .returned v ∧ Q_min3 Z  h0 n0 v U'.heap L ∧ FrameEnd U o U' L ({ frames := 0, cells := 0, slots := 0, locals := 0 } : Room).cells ({ frames := 0, cells := 0, slots := 0, locals := 0 } : Room).slots) := by
  refine MetFree.of_bodySF (Jvm.Free.JP.mathPlain rfl (by decide +kernel)) hisR ?_
  intro p e s m args below meth c s₁ Bd hml0 hP hK
  obtain ⟨rfl, hZ, hh⟩ := hP
  have hx := Bd.exec
  have hby := Bd.bytes
  have hlk := Bd.notSynchronized
  have hml : c.maxLocals = 2 := hml0
  have hown : s.vm.findClass "java/lang/Math" = some m.cls := findClass_of_methodNamed Bd.named
  have hnm := (name_of_methodNamed Bd.named Bd.method).1
  have X0 : Stand p l e ({ frames := 0, cells := 0, slots := 0, locals := 0 } : Room) s m #[(.int (3 : Int32)), (.int (3 : Int32))] below meth c s₁ [] 0 0 := Stand.of_body Bd
  have e0 : s₁.heap = h0 := by rw [← hh, Bd.state]; rfl
  have N0 := Fr.nil n0
  have Z0 : n0 ≤ h0.size := X00.1 ▸ X00.2.1
  have K0 : Keep h0 h0 ([] : List Addr) := Keep.refl _ _
  show OwnGoes p e below (fun o U' => ∃ v L, o = .returned v ∧ Q_min3 Z  h0 n0 v U'.heap L ∧ FrameEnd s o U' L ({ frames := 0, cells := 0, slots := 0, locals := 0 } : Room).cells ({ frames := 0, cells := 0, slots := 0, locals := 0 } : Room).slots) s₁ (entryFrame m #[(.int (3 : Int32)), (.int (3 : Int32))] 2)
  refine OwnGoes.step (T' := s₁) (g' := (mkF m 0 #[.val (.int (3 : Int32)), .val (.int (3 : Int32))] [])) (fun tgt kgo => castTop (ef_min3 m ) kgo) ?_
  refine OwnGoes.step (T' := s₁) (g' := (mkF m 10 #[.val (.int (3 : Int32)), .val (.int (3 : Int32))] [(.int (3 : Int32))])) (fun tgt kgo => ?_) ?_
  · show Steps p.tables e below (s₁.setTop (mkF m 0 #[.val (.int (3 : Int32)), .val (.int (3 : Int32))] [])) tgt
    refine XS.iloadN X0.here hx rfl (hb hby dd_jdk_29_method_69_0) rfl ?_
    show Steps p.tables e below (s₁.setTop (mkF m 1 #[.val (.int (3 : Int32)), .val (.int (3 : Int32))] [(.int (3 : Int32))])) tgt
    refine XS.iloadN X0.here hx rfl (hb hby dd_jdk_29_method_69_1) rfl ?_
    show Steps p.tables e below (s₁.setTop (mkF m 2 #[.val (.int (3 : Int32)), .val (.int (3 : Int32))] [(.int (3 : Int32)), (.int (3 : Int32))])) tgt
    refine XS.icmpNo X0.here hx rfl (hb hby dd_jdk_29_method_69_2) rfl (flt (by decide : ¬ ((3 : Int32) < (3 : Int32)))).2.2.1 ?_
    show Steps p.tables e below (s₁.setTop (mkF m 5 #[.val (.int (3 : Int32)), .val (.int (3 : Int32))] [])) tgt
    refine XS.iloadN X0.here hx rfl (hb hby dd_jdk_29_method_69_5) rfl ?_
    show Steps p.tables e below (s₁.setTop (mkF m 6 #[.val (.int (3 : Int32)), .val (.int (3 : Int32))] [(.int (3 : Int32))])) tgt
    refine XS.goto X0.here hx rfl (pc0 := 6) (pc' := 10) rfl (hb hby dd_jdk_29_method_69_6) (by decide) (by decide) ?_
    exact kgo
  refine own_leave X0 hlk (v := some (.int (3 : Int32))) (fun h => by rw [Bd.returns] at h; cases h) (fun fs hr => retI X0 hx Bd.returns (hb hby dd_jdk_29_method_69_10) hr) (by decide) (by decide) ?_
  show Q_min3 Z  h0 n0 _ s₁.heap _
  rw [e0]
  exact ⟨rfl, N0, rfl⟩
theorem ef_ioc3 (m : MethodId) (x0 : Addr) (x1 : Int32) : entryFrame m #[(.ref x0), (.int x1), (.int (0 : Int32)), (.int (3 : Int32))] 6 = mkF m 0 #[.val (.ref x0), .val (.int x1), .val (.int (0 : Int32)), .val (.int (3 : Int32)), .unset, .unset] [] := by first | (simp [entryFrame, mkF, argsToLocals, Value.category]; done) | rfl
def Q_ioc3 (Z : State) (t : Addr) (k : ClassId) (q : Int32) (c0 : Int32) (c1 : Int32) (c2 : Int32) (h0 : Heap) (n0 : Nat) (v : Option Value) (h : Heap) (L : List Loc) : Prop := ∃ (r : Int32), v = some (.int r) ∧ Fr n0 L ∧ h = h0 ∧ (((q = c0 ∨ q = c1 ∨ q = c2) ∧ ¬ r < 0) ∨ (¬ (q = c0 ∨ q = c1 ∨ q = c2) ∧ r < 0))
set_option maxRecDepth 65536 in
set_option maxHeartbeats 40000000 in
theorem rm_ioc3 (l : Launch) (Z : State) (a0 : Array Value) (hw : ∀ d ∈ tables_1, d.before a0 Z = true) (ws : List Jvm.Cond) (wG1 : Int32) (wO2 : Sta Z Z.heap "java/lang/String" "COMPACT_STRINGS" "Z" (.int wG1)) (wP5 : ¬ (wG1 = (0 : Int32))) (wG3 : Value) (wO4 : Sta Z Z.heap "jdk/internal/util/Preconditions" "SIOOBE_FORMATTER" "Ljava/util/function/BiFunction;" wG3) (wrG3 : wG3.isRef = true) (hstr : ∀ a ∈ Bundle.stringAtoms, a.before a0 Z = true) (hEL : EW Z a0 consts_1) (h0 : Heap) (n0 : Nat) (X00 : Old Z n0 h0) (t : Addr) (k : ClassId) (q : Int32) (c0 : Int32) (c1 : Int32) (c2 : Int32) (f0 : Arv Z h0 t k .byte (3 : Int32) ((([c0, c1, c2] : List Int32).map (fun c => c.toInt8.toInt32)).map Value.int) (.int (0 : Int32))) (hq : ¬ q < 0 ∧ ¬ (255 : Int32) < q) (hc0 : ¬ c0 < 0 ∧ ¬ (255 : Int32) < c0) (hc1 : ¬ c1 < 0 ∧ ¬ (255 : Int32) < c1) (hc2 : ¬ c2 < 0 ∧ ¬ (255 : Int32) < c2) :
    MetFree l (⟨"java/lang/StringLatin1", "indexOfChar", "([BIII)I"⟩ : MethodName) (head1 (Jvm.Cond.code (⟨"java/lang/StringLatin1", "indexOfChar", "([BIII)I"⟩ : MethodName) jdk_43_method_23_code 6 (some .int) :: ws) ({ frames := 0, cells := 0, slots := 0, locals := 0 } : Room)) (fun a U => a = #[(.ref t), (.int q), (.int (0 : Int32)), (.int (3 : Int32))] ∧ Z.Warmed39 U.vm ∧ U.heap = h0) (fun _ _ _ _ _ => True) (fun _ U o U' => ∃ v L, o = .returned v ∧ Q_ioc3 Z t k q c0 c1 c2 h0 n0 v U'.heap L ∧ FrameEnd U o U' L ({ frames := 0, cells := 0, slots := 0, locals := 0 } : Room).cells ({ frames := 0, cells := 0, slots := 0, locals := 0 } : Room).slots) := by
  refine MetFree.of_bodySF (plainFor_of_name pn_54843740) hisR ?_
  intro p e s m args below meth c s₁ Bd hml0 hP hK
  obtain ⟨rfl, hZ, hh⟩ := hP
  have hx := Bd.exec
  have hby := Bd.bytes
  have hlk := Bd.notSynchronized
  have hml : c.maxLocals = 6 := hml0
  have hown : s.vm.findClass "java/lang/StringLatin1" = some m.cls := findClass_of_methodNamed Bd.named
  have hnm := (name_of_methodNamed Bd.named Bd.method).1
  have X0 : Stand p l e ({ frames := 0, cells := 0, slots := 0, locals := 0 } : Room) s m #[(.ref t), (.int q), (.int (0 : Int32)), (.int (3 : Int32))] below meth c s₁ [] 0 0 := Stand.of_body Bd
  have e0 : s₁.heap = h0 := by rw [← hh, Bd.state]; rfl
  have N0 := Fr.nil n0
  have Z0 : n0 ≤ h0.size := X00.1 ▸ X00.2.1
  have K0 : Keep h0 h0 ([] : List Addr) := Keep.refl _ _
  show OwnGoes p e below (fun o U' => ∃ v L, o = .returned v ∧ Q_ioc3 Z t k q c0 c1 c2 h0 n0 v U'.heap L ∧ FrameEnd s o U' L ({ frames := 0, cells := 0, slots := 0, locals := 0 } : Room).cells ({ frames := 0, cells := 0, slots := 0, locals := 0 } : Room).slots) s₁ (entryFrame m #[(.ref t), (.int q), (.int (0 : Int32)), (.int (3 : Int32))] 6)
  refine OwnGoes.step (T' := s₁) (g' := (mkF m 0 #[.val (.ref t), .val (.int q), .val (.int (0 : Int32)), .val (.int (3 : Int32)), .unset, .unset] [])) (fun tgt kgo => castTop (ef_ioc3 m t q) kgo) ?_
  refine OwnGoes.step (T' := s₁) (g' := (mkF m 19 #[.val (.ref t), .val (.int q), .val (.int (0 : Int32)), .val (.int (3 : Int32)), .val (.int (nar .byte q)), .val (.int (0 : Int32))] [(.int (nar .byte q)), (.int (c0.toInt8.toInt32))])) (fun tgt kgo => ?_) ?_
  · show Steps p.tables e below (s₁.setTop (mkF m 0 #[.val (.ref t), .val (.int q), .val (.int (0 : Int32)), .val (.int (3 : Int32)), .unset, .unset] [])) tgt
    refine XS.iloadN X0.here hx rfl (hb hby dd_jdk_43_method_23_0) rfl ?_
    show Steps p.tables e below (s₁.setTop (mkF m 1 #[.val (.ref t), .val (.int q), .val (.int (0 : Int32)), .val (.int (3 : Int32)), .unset, .unset] [(.int q)])) tgt
    refine XS.i2b X0.here hx rfl (hb hby dd_jdk_43_method_23_1) rfl ?_
    show Steps p.tables e below (s₁.setTop (mkF m 2 #[.val (.ref t), .val (.int q), .val (.int (0 : Int32)), .val (.int (3 : Int32)), .unset, .unset] [(.int (nar .byte q))])) tgt
    refine XS.istore X0.here hx rfl (hb hby dd_jdk_43_method_23_2) rfl (l' := #[.val (.ref t), .val (.int q), .val (.int (0 : Int32)), .val (.int (3 : Int32)), .val (.int (nar .byte q)), .unset]) rfl ?_
    show Steps p.tables e below (s₁.setTop (mkF m 4 #[.val (.ref t), .val (.int q), .val (.int (0 : Int32)), .val (.int (3 : Int32)), .val (.int (nar .byte q)), .unset] [])) tgt
    refine XS.iloadN X0.here hx rfl (hb hby dd_jdk_43_method_23_4) rfl ?_
    show Steps p.tables e below (s₁.setTop (mkF m 5 #[.val (.ref t), .val (.int q), .val (.int (0 : Int32)), .val (.int (3 : Int32)), .val (.int (nar .byte q)), .unset] [(.int (0 : Int32))])) tgt
    refine XS.istore X0.here hx rfl (hb hby dd_jdk_43_method_23_5) rfl (l' := #[.val (.ref t), .val (.int q), .val (.int (0 : Int32)), .val (.int (3 : Int32)), .val (.int (nar .byte q)), .val (.int (0 : Int32))]) rfl ?_
    show Steps p.tables e below (s₁.setTop (mkF m 7 #[.val (.ref t), .val (.int q), .val (.int (0 : Int32)), .val (.int (3 : Int32)), .val (.int (nar .byte q)), .val (.int (0 : Int32))] [])) tgt
    refine XS.iload X0.here hx rfl (hb hby dd_jdk_43_method_23_7) rfl ?_
    show Steps p.tables e below (s₁.setTop (mkF m 9 #[.val (.ref t), .val (.int q), .val (.int (0 : Int32)), .val (.int (3 : Int32)), .val (.int (nar .byte q)), .val (.int (0 : Int32))] [(.int (0 : Int32))])) tgt
    refine XS.iloadN X0.here hx rfl (hb hby dd_jdk_43_method_23_9) rfl ?_
    show Steps p.tables e below (s₁.setTop (mkF m 10 #[.val (.ref t), .val (.int q), .val (.int (0 : Int32)), .val (.int (3 : Int32)), .val (.int (nar .byte q)), .val (.int (0 : Int32))] [(.int (3 : Int32)), (.int (0 : Int32))])) tgt
    refine XS.icmpNo X0.here hx rfl (hb hby dd_jdk_43_method_23_10) rfl (tlt (by decide : (0 : Int32) < (3 : Int32))).2.1 ?_
    show Steps p.tables e below (s₁.setTop (mkF m 13 #[.val (.ref t), .val (.int q), .val (.int (0 : Int32)), .val (.int (3 : Int32)), .val (.int (nar .byte q)), .val (.int (0 : Int32))] [])) tgt
    refine XS.aloadN X0.here hx rfl (hb hby dd_jdk_43_method_23_13) rfl rfl ?_
    show Steps p.tables e below (s₁.setTop (mkF m 14 #[.val (.ref t), .val (.int q), .val (.int (0 : Int32)), .val (.int (3 : Int32)), .val (.int (nar .byte q)), .val (.int (0 : Int32))] [(.ref t)])) tgt
    refine XS.iload X0.here hx rfl (hb hby dd_jdk_43_method_23_14) rfl ?_
    show Steps p.tables e below (s₁.setTop (mkF m 16 #[.val (.ref t), .val (.int q), .val (.int (0 : Int32)), .val (.int (3 : Int32)), .val (.int (nar .byte q)), .val (.int (0 : Int32))] [(.int (0 : Int32)), (.ref t)])) tgt
    obtain ⟨cl1, Ar1, q1, S1, M1, H1, G1⟩ := f0
    refine X0.baloadBytes hx (j := (0 : Int32)) (v := (.int (c0.toInt8.toInt32))) (by rw [e0]; exact Ar1.1) (State.isArrayOf_alike hZ.alike Ar1.2.1) Ar1.2.2 (inb_of S1 ⟨by decide, by decide⟩) (Has.at H1 (inb_of S1 ⟨by decide, by decide⟩) rfl) (g := (mkF m 16 #[.val (.ref t), .val (.int q), .val (.int (0 : Int32)), .val (.int (3 : Int32)), .val (.int (nar .byte q)), .val (.int (0 : Int32))] [(.int (0 : Int32)), (.ref t)])) rfl rfl (hb hby dd_jdk_43_method_23_16) _ ?_
    show Steps p.tables e below (s₁.setTop (mkF m 17 #[.val (.ref t), .val (.int q), .val (.int (0 : Int32)), .val (.int (3 : Int32)), .val (.int (nar .byte q)), .val (.int (0 : Int32))] [(.int (c0.toInt8.toInt32))])) tgt
    refine XS.iload X0.here hx rfl (hb hby dd_jdk_43_method_23_17) rfl ?_
    exact kgo
  by_cases cc2 : (c0.toInt8.toInt32) = (nar .byte q)
  · skip
    refine OwnGoes.step (T' := s₁) (g' := (mkF m 24 #[.val (.ref t), .val (.int q), .val (.int (0 : Int32)), .val (.int (3 : Int32)), .val (.int (nar .byte q)), .val (.int (0 : Int32))] [(.int (0 : Int32))])) (fun tgt kgo => ?_) ?_
    · show Steps p.tables e below (s₁.setTop (mkF m 19 #[.val (.ref t), .val (.int q), .val (.int (0 : Int32)), .val (.int (3 : Int32)), .val (.int (nar .byte q)), .val (.int (0 : Int32))] [(.int (nar .byte q)), (.int (c0.toInt8.toInt32))])) tgt
      refine XS.icmpNo X0.here hx rfl (hb hby dd_jdk_43_method_23_19) rfl (teq cc2).2 ?_
      show Steps p.tables e below (s₁.setTop (mkF m 22 #[.val (.ref t), .val (.int q), .val (.int (0 : Int32)), .val (.int (3 : Int32)), .val (.int (nar .byte q)), .val (.int (0 : Int32))] [])) tgt
      refine XS.iload X0.here hx rfl (hb hby dd_jdk_43_method_23_22) rfl ?_
      exact kgo
    refine own_leave X0 hlk (v := some (.int (0 : Int32))) (fun h => by rw [Bd.returns] at h; cases h) (fun fs hr => retI X0 hx Bd.returns (hb hby dd_jdk_43_method_23_24) hr) (by decide) (by decide) ?_
    show Q_ioc3 Z t k q c0 c1 c2 h0 n0 _ s₁.heap _
    rw [e0]
    exact ⟨(0 : Int32), rfl, N0, rfl, (Or.inl ⟨(Or.inl ((own_byte_inj hc0 hq).mp cc2)), by decide⟩)⟩
  · skip
    refine OwnGoes.step (T' := s₁) (g' := (mkF m 19 #[.val (.ref t), .val (.int q), .val (.int (0 : Int32)), .val (.int (3 : Int32)), .val (.int (nar .byte q)), .val (.int (1 : Int32))] [(.int (nar .byte q)), (.int (c1.toInt8.toInt32))])) (fun tgt kgo => ?_) ?_
    · show Steps p.tables e below (s₁.setTop (mkF m 19 #[.val (.ref t), .val (.int q), .val (.int (0 : Int32)), .val (.int (3 : Int32)), .val (.int (nar .byte q)), .val (.int (0 : Int32))] [(.int (nar .byte q)), (.int (c0.toInt8.toInt32))])) tgt
      refine XS.icmpYes X0.here hx rfl (pc0 := 19) (pc' := 25) rfl (hb hby dd_jdk_43_method_23_19) rfl (feq cc2).2 (by decide) (by decide) ?_
      show Steps p.tables e below (s₁.setTop (mkF m 25 #[.val (.ref t), .val (.int q), .val (.int (0 : Int32)), .val (.int (3 : Int32)), .val (.int (nar .byte q)), .val (.int (0 : Int32))] [])) tgt
      refine XS.iinc X0.here hx rfl (hb hby dd_jdk_43_method_23_25) rfl (l' := #[.val (.ref t), .val (.int q), .val (.int (0 : Int32)), .val (.int (3 : Int32)), .val (.int (nar .byte q)), .val (.int (1 : Int32))]) rfl ?_
      show Steps p.tables e below (s₁.setTop (mkF m 28 #[.val (.ref t), .val (.int q), .val (.int (0 : Int32)), .val (.int (3 : Int32)), .val (.int (nar .byte q)), .val (.int (1 : Int32))] [])) tgt
      refine XS.goto X0.here hx rfl (pc0 := 28) (pc' := 7) rfl (hb hby dd_jdk_43_method_23_28) (by decide) (by decide) ?_
      show Steps p.tables e below (s₁.setTop (mkF m 7 #[.val (.ref t), .val (.int q), .val (.int (0 : Int32)), .val (.int (3 : Int32)), .val (.int (nar .byte q)), .val (.int (1 : Int32))] [])) tgt
      refine XS.iload X0.here hx rfl (hb hby dd_jdk_43_method_23_7) rfl ?_
      show Steps p.tables e below (s₁.setTop (mkF m 9 #[.val (.ref t), .val (.int q), .val (.int (0 : Int32)), .val (.int (3 : Int32)), .val (.int (nar .byte q)), .val (.int (1 : Int32))] [(.int (1 : Int32))])) tgt
      refine XS.iloadN X0.here hx rfl (hb hby dd_jdk_43_method_23_9) rfl ?_
      show Steps p.tables e below (s₁.setTop (mkF m 10 #[.val (.ref t), .val (.int q), .val (.int (0 : Int32)), .val (.int (3 : Int32)), .val (.int (nar .byte q)), .val (.int (1 : Int32))] [(.int (3 : Int32)), (.int (1 : Int32))])) tgt
      refine XS.icmpNo X0.here hx rfl (hb hby dd_jdk_43_method_23_10) rfl (tlt (by decide : (1 : Int32) < (3 : Int32))).2.1 ?_
      show Steps p.tables e below (s₁.setTop (mkF m 13 #[.val (.ref t), .val (.int q), .val (.int (0 : Int32)), .val (.int (3 : Int32)), .val (.int (nar .byte q)), .val (.int (1 : Int32))] [])) tgt
      refine XS.aloadN X0.here hx rfl (hb hby dd_jdk_43_method_23_13) rfl rfl ?_
      show Steps p.tables e below (s₁.setTop (mkF m 14 #[.val (.ref t), .val (.int q), .val (.int (0 : Int32)), .val (.int (3 : Int32)), .val (.int (nar .byte q)), .val (.int (1 : Int32))] [(.ref t)])) tgt
      refine XS.iload X0.here hx rfl (hb hby dd_jdk_43_method_23_14) rfl ?_
      show Steps p.tables e below (s₁.setTop (mkF m 16 #[.val (.ref t), .val (.int q), .val (.int (0 : Int32)), .val (.int (3 : Int32)), .val (.int (nar .byte q)), .val (.int (1 : Int32))] [(.int (1 : Int32)), (.ref t)])) tgt
      obtain ⟨cl4, Ar4, q4, S4, M4, H4, G4⟩ := f0
      refine X0.baloadBytes hx (j := (1 : Int32)) (v := (.int (c1.toInt8.toInt32))) (by rw [e0]; exact Ar4.1) (State.isArrayOf_alike hZ.alike Ar4.2.1) Ar4.2.2 (inb_of S4 ⟨by decide, by decide⟩) (Has.at H4 (inb_of S4 ⟨by decide, by decide⟩) rfl) (g := (mkF m 16 #[.val (.ref t), .val (.int q), .val (.int (0 : Int32)), .val (.int (3 : Int32)), .val (.int (nar .byte q)), .val (.int (1 : Int32))] [(.int (1 : Int32)), (.ref t)])) rfl rfl (hb hby dd_jdk_43_method_23_16) _ ?_
      show Steps p.tables e below (s₁.setTop (mkF m 17 #[.val (.ref t), .val (.int q), .val (.int (0 : Int32)), .val (.int (3 : Int32)), .val (.int (nar .byte q)), .val (.int (1 : Int32))] [(.int (c1.toInt8.toInt32))])) tgt
      refine XS.iload X0.here hx rfl (hb hby dd_jdk_43_method_23_17) rfl ?_
      exact kgo
    by_cases cc5 : (c1.toInt8.toInt32) = (nar .byte q)
    · skip
      refine OwnGoes.step (T' := s₁) (g' := (mkF m 24 #[.val (.ref t), .val (.int q), .val (.int (0 : Int32)), .val (.int (3 : Int32)), .val (.int (nar .byte q)), .val (.int (1 : Int32))] [(.int (1 : Int32))])) (fun tgt kgo => ?_) ?_
      · show Steps p.tables e below (s₁.setTop (mkF m 19 #[.val (.ref t), .val (.int q), .val (.int (0 : Int32)), .val (.int (3 : Int32)), .val (.int (nar .byte q)), .val (.int (1 : Int32))] [(.int (nar .byte q)), (.int (c1.toInt8.toInt32))])) tgt
        refine XS.icmpNo X0.here hx rfl (hb hby dd_jdk_43_method_23_19) rfl (teq cc5).2 ?_
        show Steps p.tables e below (s₁.setTop (mkF m 22 #[.val (.ref t), .val (.int q), .val (.int (0 : Int32)), .val (.int (3 : Int32)), .val (.int (nar .byte q)), .val (.int (1 : Int32))] [])) tgt
        refine XS.iload X0.here hx rfl (hb hby dd_jdk_43_method_23_22) rfl ?_
        exact kgo
      refine own_leave X0 hlk (v := some (.int (1 : Int32))) (fun h => by rw [Bd.returns] at h; cases h) (fun fs hr => retI X0 hx Bd.returns (hb hby dd_jdk_43_method_23_24) hr) (by decide) (by decide) ?_
      show Q_ioc3 Z t k q c0 c1 c2 h0 n0 _ s₁.heap _
      rw [e0]
      exact ⟨(1 : Int32), rfl, N0, rfl, (Or.inl ⟨(Or.inr (Or.inl ((own_byte_inj hc1 hq).mp cc5))), by decide⟩)⟩
    · skip
      refine OwnGoes.step (T' := s₁) (g' := (mkF m 19 #[.val (.ref t), .val (.int q), .val (.int (0 : Int32)), .val (.int (3 : Int32)), .val (.int (nar .byte q)), .val (.int (2 : Int32))] [(.int (nar .byte q)), (.int (c2.toInt8.toInt32))])) (fun tgt kgo => ?_) ?_
      · show Steps p.tables e below (s₁.setTop (mkF m 19 #[.val (.ref t), .val (.int q), .val (.int (0 : Int32)), .val (.int (3 : Int32)), .val (.int (nar .byte q)), .val (.int (1 : Int32))] [(.int (nar .byte q)), (.int (c1.toInt8.toInt32))])) tgt
        refine XS.icmpYes X0.here hx rfl (pc0 := 19) (pc' := 25) rfl (hb hby dd_jdk_43_method_23_19) rfl (feq cc5).2 (by decide) (by decide) ?_
        show Steps p.tables e below (s₁.setTop (mkF m 25 #[.val (.ref t), .val (.int q), .val (.int (0 : Int32)), .val (.int (3 : Int32)), .val (.int (nar .byte q)), .val (.int (1 : Int32))] [])) tgt
        refine XS.iinc X0.here hx rfl (hb hby dd_jdk_43_method_23_25) rfl (l' := #[.val (.ref t), .val (.int q), .val (.int (0 : Int32)), .val (.int (3 : Int32)), .val (.int (nar .byte q)), .val (.int (2 : Int32))]) rfl ?_
        show Steps p.tables e below (s₁.setTop (mkF m 28 #[.val (.ref t), .val (.int q), .val (.int (0 : Int32)), .val (.int (3 : Int32)), .val (.int (nar .byte q)), .val (.int (2 : Int32))] [])) tgt
        refine XS.goto X0.here hx rfl (pc0 := 28) (pc' := 7) rfl (hb hby dd_jdk_43_method_23_28) (by decide) (by decide) ?_
        show Steps p.tables e below (s₁.setTop (mkF m 7 #[.val (.ref t), .val (.int q), .val (.int (0 : Int32)), .val (.int (3 : Int32)), .val (.int (nar .byte q)), .val (.int (2 : Int32))] [])) tgt
        refine XS.iload X0.here hx rfl (hb hby dd_jdk_43_method_23_7) rfl ?_
        show Steps p.tables e below (s₁.setTop (mkF m 9 #[.val (.ref t), .val (.int q), .val (.int (0 : Int32)), .val (.int (3 : Int32)), .val (.int (nar .byte q)), .val (.int (2 : Int32))] [(.int (2 : Int32))])) tgt
        refine XS.iloadN X0.here hx rfl (hb hby dd_jdk_43_method_23_9) rfl ?_
        show Steps p.tables e below (s₁.setTop (mkF m 10 #[.val (.ref t), .val (.int q), .val (.int (0 : Int32)), .val (.int (3 : Int32)), .val (.int (nar .byte q)), .val (.int (2 : Int32))] [(.int (3 : Int32)), (.int (2 : Int32))])) tgt
        refine XS.icmpNo X0.here hx rfl (hb hby dd_jdk_43_method_23_10) rfl (tlt (by decide : (2 : Int32) < (3 : Int32))).2.1 ?_
        show Steps p.tables e below (s₁.setTop (mkF m 13 #[.val (.ref t), .val (.int q), .val (.int (0 : Int32)), .val (.int (3 : Int32)), .val (.int (nar .byte q)), .val (.int (2 : Int32))] [])) tgt
        refine XS.aloadN X0.here hx rfl (hb hby dd_jdk_43_method_23_13) rfl rfl ?_
        show Steps p.tables e below (s₁.setTop (mkF m 14 #[.val (.ref t), .val (.int q), .val (.int (0 : Int32)), .val (.int (3 : Int32)), .val (.int (nar .byte q)), .val (.int (2 : Int32))] [(.ref t)])) tgt
        refine XS.iload X0.here hx rfl (hb hby dd_jdk_43_method_23_14) rfl ?_
        show Steps p.tables e below (s₁.setTop (mkF m 16 #[.val (.ref t), .val (.int q), .val (.int (0 : Int32)), .val (.int (3 : Int32)), .val (.int (nar .byte q)), .val (.int (2 : Int32))] [(.int (2 : Int32)), (.ref t)])) tgt
        obtain ⟨cl7, Ar7, q7, S7, M7, H7, G7⟩ := f0
        refine X0.baloadBytes hx (j := (2 : Int32)) (v := (.int (c2.toInt8.toInt32))) (by rw [e0]; exact Ar7.1) (State.isArrayOf_alike hZ.alike Ar7.2.1) Ar7.2.2 (inb_of S7 ⟨by decide, by decide⟩) (Has.at H7 (inb_of S7 ⟨by decide, by decide⟩) rfl) (g := (mkF m 16 #[.val (.ref t), .val (.int q), .val (.int (0 : Int32)), .val (.int (3 : Int32)), .val (.int (nar .byte q)), .val (.int (2 : Int32))] [(.int (2 : Int32)), (.ref t)])) rfl rfl (hb hby dd_jdk_43_method_23_16) _ ?_
        show Steps p.tables e below (s₁.setTop (mkF m 17 #[.val (.ref t), .val (.int q), .val (.int (0 : Int32)), .val (.int (3 : Int32)), .val (.int (nar .byte q)), .val (.int (2 : Int32))] [(.int (c2.toInt8.toInt32))])) tgt
        refine XS.iload X0.here hx rfl (hb hby dd_jdk_43_method_23_17) rfl ?_
        exact kgo
      by_cases cc8 : (c2.toInt8.toInt32) = (nar .byte q)
      · skip
        refine OwnGoes.step (T' := s₁) (g' := (mkF m 24 #[.val (.ref t), .val (.int q), .val (.int (0 : Int32)), .val (.int (3 : Int32)), .val (.int (nar .byte q)), .val (.int (2 : Int32))] [(.int (2 : Int32))])) (fun tgt kgo => ?_) ?_
        · show Steps p.tables e below (s₁.setTop (mkF m 19 #[.val (.ref t), .val (.int q), .val (.int (0 : Int32)), .val (.int (3 : Int32)), .val (.int (nar .byte q)), .val (.int (2 : Int32))] [(.int (nar .byte q)), (.int (c2.toInt8.toInt32))])) tgt
          refine XS.icmpNo X0.here hx rfl (hb hby dd_jdk_43_method_23_19) rfl (teq cc8).2 ?_
          show Steps p.tables e below (s₁.setTop (mkF m 22 #[.val (.ref t), .val (.int q), .val (.int (0 : Int32)), .val (.int (3 : Int32)), .val (.int (nar .byte q)), .val (.int (2 : Int32))] [])) tgt
          refine XS.iload X0.here hx rfl (hb hby dd_jdk_43_method_23_22) rfl ?_
          exact kgo
        refine own_leave X0 hlk (v := some (.int (2 : Int32))) (fun h => by rw [Bd.returns] at h; cases h) (fun fs hr => retI X0 hx Bd.returns (hb hby dd_jdk_43_method_23_24) hr) (by decide) (by decide) ?_
        show Q_ioc3 Z t k q c0 c1 c2 h0 n0 _ s₁.heap _
        rw [e0]
        exact ⟨(2 : Int32), rfl, N0, rfl, (Or.inl ⟨(Or.inr (Or.inr ((own_byte_inj hc2 hq).mp cc8))), by decide⟩)⟩
      · skip
        refine OwnGoes.step (T' := s₁) (g' := (mkF m 32 #[.val (.ref t), .val (.int q), .val (.int (0 : Int32)), .val (.int (3 : Int32)), .val (.int (nar .byte q)), .val (.int (3 : Int32))] [(.int (-1 : Int32))])) (fun tgt kgo => ?_) ?_
        · show Steps p.tables e below (s₁.setTop (mkF m 19 #[.val (.ref t), .val (.int q), .val (.int (0 : Int32)), .val (.int (3 : Int32)), .val (.int (nar .byte q)), .val (.int (2 : Int32))] [(.int (nar .byte q)), (.int (c2.toInt8.toInt32))])) tgt
          refine XS.icmpYes X0.here hx rfl (pc0 := 19) (pc' := 25) rfl (hb hby dd_jdk_43_method_23_19) rfl (feq cc8).2 (by decide) (by decide) ?_
          show Steps p.tables e below (s₁.setTop (mkF m 25 #[.val (.ref t), .val (.int q), .val (.int (0 : Int32)), .val (.int (3 : Int32)), .val (.int (nar .byte q)), .val (.int (2 : Int32))] [])) tgt
          refine XS.iinc X0.here hx rfl (hb hby dd_jdk_43_method_23_25) rfl (l' := #[.val (.ref t), .val (.int q), .val (.int (0 : Int32)), .val (.int (3 : Int32)), .val (.int (nar .byte q)), .val (.int (3 : Int32))]) rfl ?_
          show Steps p.tables e below (s₁.setTop (mkF m 28 #[.val (.ref t), .val (.int q), .val (.int (0 : Int32)), .val (.int (3 : Int32)), .val (.int (nar .byte q)), .val (.int (3 : Int32))] [])) tgt
          refine XS.goto X0.here hx rfl (pc0 := 28) (pc' := 7) rfl (hb hby dd_jdk_43_method_23_28) (by decide) (by decide) ?_
          show Steps p.tables e below (s₁.setTop (mkF m 7 #[.val (.ref t), .val (.int q), .val (.int (0 : Int32)), .val (.int (3 : Int32)), .val (.int (nar .byte q)), .val (.int (3 : Int32))] [])) tgt
          refine XS.iload X0.here hx rfl (hb hby dd_jdk_43_method_23_7) rfl ?_
          show Steps p.tables e below (s₁.setTop (mkF m 9 #[.val (.ref t), .val (.int q), .val (.int (0 : Int32)), .val (.int (3 : Int32)), .val (.int (nar .byte q)), .val (.int (3 : Int32))] [(.int (3 : Int32))])) tgt
          refine XS.iloadN X0.here hx rfl (hb hby dd_jdk_43_method_23_9) rfl ?_
          show Steps p.tables e below (s₁.setTop (mkF m 10 #[.val (.ref t), .val (.int q), .val (.int (0 : Int32)), .val (.int (3 : Int32)), .val (.int (nar .byte q)), .val (.int (3 : Int32))] [(.int (3 : Int32)), (.int (3 : Int32))])) tgt
          refine XS.icmpYes X0.here hx rfl (pc0 := 10) (pc' := 31) rfl (hb hby dd_jdk_43_method_23_10) rfl (flt (by decide : ¬ ((3 : Int32) < (3 : Int32)))).2.1 (by decide) (by decide) ?_
          show Steps p.tables e below (s₁.setTop (mkF m 31 #[.val (.ref t), .val (.int q), .val (.int (0 : Int32)), .val (.int (3 : Int32)), .val (.int (nar .byte q)), .val (.int (3 : Int32))] [])) tgt
          refine XS.iconst X0.here hx rfl (hb hby dd_jdk_43_method_23_31) ?_
          exact kgo
        have hno : ¬ (q = c0 ∨ q = c1 ∨ q = c2) := by
          rintro (hz | hz | hz)
          · exact cc2 ((own_byte_inj hc0 hq).mpr hz)
          · exact cc5 ((own_byte_inj hc1 hq).mpr hz)
          · exact cc8 ((own_byte_inj hc2 hq).mpr hz)
        refine own_leave X0 hlk (v := some (.int (-1 : Int32))) (fun h => by rw [Bd.returns] at h; cases h) (fun fs hr => retI X0 hx Bd.returns (hb hby dd_jdk_43_method_23_32) hr) (by decide) (by decide) ?_
        show Q_ioc3 Z t k q c0 c1 c2 h0 n0 _ s₁.heap _
        rw [e0]
        exact ⟨(-1 : Int32), rfl, N0, rfl, (Or.inr ⟨hno, by decide⟩)⟩
theorem ef_iol3 (m : MethodId) (x0 : Addr) (x1 : Int32) : entryFrame m #[(.ref x0), (.int x1), (.int (0 : Int32)), (.int (3 : Int32))] 4 = mkF m 0 #[.val (.ref x0), .val (.int x1), .val (.int (0 : Int32)), .val (.int (3 : Int32))] [] := by first | (simp [entryFrame, mkF, argsToLocals, Value.category]; done) | rfl
def Q_iol3 (Z : State) (t : Addr) (k : ClassId) (q : Int32) (c0 : Int32) (c1 : Int32) (c2 : Int32) (h0 : Heap) (n0 : Nat) (v : Option Value) (h : Heap) (L : List Loc) : Prop := ∃ (r : Int32), v = some (.int r) ∧ Fr n0 L ∧ h = h0 ∧ (((q = c0 ∨ q = c1 ∨ q = c2) ∧ ¬ r < 0) ∨ (¬ (q = c0 ∨ q = c1 ∨ q = c2) ∧ r < 0))
set_option maxRecDepth 65536 in
set_option maxHeartbeats 40000000 in
theorem rm_iol3 (l : Launch) (Z : State) (a0 : Array Value) (hw : ∀ d ∈ tables_1, d.before a0 Z = true) (ws : List Jvm.Cond) (wG1 : Int32) (wO2 : Sta Z Z.heap "java/lang/String" "COMPACT_STRINGS" "Z" (.int wG1)) (wP5 : ¬ (wG1 = (0 : Int32))) (wG3 : Value) (wO4 : Sta Z Z.heap "jdk/internal/util/Preconditions" "SIOOBE_FORMATTER" "Ljava/util/function/BiFunction;" wG3) (wrG3 : wG3.isRef = true) (hstr : ∀ a ∈ Bundle.stringAtoms, a.before a0 Z = true) (hEL : EW Z a0 consts_1) (h0 : Heap) (n0 : Nat) (X00 : Old Z n0 h0) (t : Addr) (k : ClassId) (q : Int32) (c0 : Int32) (c1 : Int32) (c2 : Int32) (f0 : Arv Z h0 t k .byte (3 : Int32) ((([c0, c1, c2] : List Int32).map (fun c => c.toInt8.toInt32)).map Value.int) (.int (0 : Int32))) (hq : ¬ q < 0 ∧ ¬ (255 : Int32) < q) (hc0 : ¬ c0 < 0 ∧ ¬ (255 : Int32) < c0) (hc1 : ¬ c1 < 0 ∧ ¬ (255 : Int32) < c1) (hc2 : ¬ c2 < 0 ∧ ¬ (255 : Int32) < c2) :
    MetFree l (⟨"java/lang/StringLatin1", "indexOf", "([BIII)I"⟩ : MethodName) (head1 (Jvm.Cond.code (⟨"java/lang/StringLatin1", "indexOf", "([BIII)I"⟩ : MethodName) jdk_43_method_22_code 4 (some .int) :: ws) ({ frames := 1, cells := 0, slots := 0, locals := 17 } : Room)) (fun a U => a = #[(.ref t), (.int q), (.int (0 : Int32)), (.int (3 : Int32))] ∧ Z.Warmed39 U.vm ∧ U.heap = h0) (fun _ _ _ _ _ => True) (fun _ U o U' => ∃ v L, o = .returned v ∧ Q_iol3 Z t k q c0 c1 c2 h0 n0 v U'.heap L ∧ FrameEnd U o U' L ({ frames := 1, cells := 0, slots := 0, locals := 17 } : Room).cells ({ frames := 1, cells := 0, slots := 0, locals := 17 } : Room).slots) := by
  refine MetFree.of_bodySF (plainFor_of_name pn_54843740) hisR ?_
  intro p e s m args below meth c s₁ Bd hml0 hP hK
  obtain ⟨rfl, hZ, hh⟩ := hP
  have hx := Bd.exec
  have hby := Bd.bytes
  have hlk := Bd.notSynchronized
  have hml : c.maxLocals = 4 := hml0
  have hown : s.vm.findClass "java/lang/StringLatin1" = some m.cls := findClass_of_methodNamed Bd.named
  have hnm := (name_of_methodNamed Bd.named Bd.method).1
  have X0 : Stand p l e ({ frames := 1, cells := 0, slots := 0, locals := 17 } : Room) s m #[(.ref t), (.int q), (.int (0 : Int32)), (.int (3 : Int32))] below meth c s₁ [] 0 0 := Stand.of_body Bd
  have e0 : s₁.heap = h0 := by rw [← hh, Bd.state]; rfl
  have N0 := Fr.nil n0
  have Z0 : n0 ≤ h0.size := X00.1 ▸ X00.2.1
  have K0 : Keep h0 h0 ([] : List Addr) := Keep.refl _ _
  show OwnGoes p e below (fun o U' => ∃ v L, o = .returned v ∧ Q_iol3 Z t k q c0 c1 c2 h0 n0 v U'.heap L ∧ FrameEnd s o U' L ({ frames := 1, cells := 0, slots := 0, locals := 17 } : Room).cells ({ frames := 1, cells := 0, slots := 0, locals := 17 } : Room).slots) s₁ (entryFrame m #[(.ref t), (.int q), (.int (0 : Int32)), (.int (3 : Int32))] 4)
  refine OwnGoes.step (T' := s₁) (g' := (mkF m 0 #[.val (.ref t), .val (.int q), .val (.int (0 : Int32)), .val (.int (3 : Int32))] [])) (fun tgt kgo => castTop (ef_iol3 m t q) kgo) ?_
  refine OwnGoes.step (T' := s₁) (g' := (mkF m 1 #[.val (.ref t), .val (.int q), .val (.int (0 : Int32)), .val (.int (3 : Int32))] [(.int q)])) (fun tgt kgo => ?_) ?_
  · show Steps p.tables e below (s₁.setTop (mkF m 0 #[.val (.ref t), .val (.int q), .val (.int (0 : Int32)), .val (.int (3 : Int32))] [])) tgt
    refine XS.iloadN X0.here hx rfl (hb hby dd_jdk_43_method_22_0) rfl ?_
    exact kgo
  obtain ⟨_, _, ⟨T1, L1, k1, n1⟩, -, X1, ⟨Lc1, hQ1, l1, y1, z1⟩, st1⟩ := Jvm.LawKit.callS X0 hx (y := (⟨"java/lang/StringLatin1", "canEncode", "(I)Z"⟩ : MethodName)) hown (mvT hZ (hw _ (List.mem_of_getElem? (i := 111) rfl))) (mvT hZ (hw _ (List.mem_of_getElem? (i := 112) rfl))) (mvT hZ (hw _ (List.mem_of_getElem? (i := 39) rfl))) (mvT hZ (hw _ (List.mem_of_getElem? (i := 113) rfl))) (by decide) (backOf (W := 0) (rm_cei l Z a0 hw [] wG1 wO2 wP5 wG3 wO4 wrG3 hstr hEL h0 n0 X00 q hq) hZ (hw _ (List.mem_of_getElem? (i := 113) rfl)) (hw _ (List.mem_of_getElem? (i := 39) rfl)) (by decide) (by decide)) (g := (mkF m 1 #[.val (.ref t), .val (.int q), .val (.int (0 : Int32)), .val (.int (3 : Int32))] [(.int q)])) rfl (by rw [hml]; rfl) (argsL := [(.int q)]) (rest := []) (lenOf pd_1097859 rfl) rfl (by show 2 * 0 + _ ≤ _; exact Nat.le_of_eq rfl) (hb hby dd_jdk_43_method_22_1) (fun _ _ => ⟨rfl, e0, (by decide : 0 + 0 ≤ _), (by decide : 0 + 0 ≤ _)⟩)
  dsimp only [Pt.U, Pt.locs, Pt.cells, Pt.slots] at X1 l1 y1 z1 st1 hQ1
  subst l1 y1 z1
  obtain ⟨rfl, Nq1, eq1⟩ := hQ1
  refine OwnGoes.step (T' := T1) (g' := (mkF m 4 #[.val (.ref t), .val (.int q), .val (.int (0 : Int32)), .val (.int (3 : Int32))] [(.int (1 : Int32))])) st1 ?_
  have N1 := Fr.app N0 Nq1
  refine OwnGoes.step (T' := T1) (g' := (mkF m 11 #[.val (.ref t), .val (.int q), .val (.int (0 : Int32)), .val (.int (3 : Int32))] [(.int (0 : Int32)), (.int (0 : Int32))])) (fun tgt kgo => ?_) ?_
  · show Steps p.tables e below (T1.setTop (mkF m 4 #[.val (.ref t), .val (.int q), .val (.int (0 : Int32)), .val (.int (3 : Int32))] [(.int (1 : Int32))])) tgt
    refine XS.ifYes X1.here hx rfl (pc0 := 4) (pc' := 9) rfl (hb hby dd_jdk_43_method_22_4) rfl ((if0 _ _).trans (feq (by decide : ¬ ((1 : Int32) = (0 : Int32)))).2) (by decide) (by decide) ?_
    show Steps p.tables e below (T1.setTop (mkF m 9 #[.val (.ref t), .val (.int q), .val (.int (0 : Int32)), .val (.int (3 : Int32))] [])) tgt
    refine XS.iloadN X1.here hx rfl (hb hby dd_jdk_43_method_22_9) rfl ?_
    show Steps p.tables e below (T1.setTop (mkF m 10 #[.val (.ref t), .val (.int q), .val (.int (0 : Int32)), .val (.int (3 : Int32))] [(.int (0 : Int32))])) tgt
    refine XS.iconst X1.here hx rfl (hb hby dd_jdk_43_method_22_10) ?_
    exact kgo
  obtain ⟨_, _, ⟨T2, L2, k2, n2⟩, -, X2, ⟨Lc2, hQ2, l2, y2, z2⟩, st2⟩ := Jvm.LawKit.callS X1 hx (y := (⟨"java/lang/Math", "max", "(II)I"⟩ : MethodName)) hown (mvT hZ (hw _ (List.mem_of_getElem? (i := 114) rfl))) (mvT hZ (hw _ (List.mem_of_getElem? (i := 115) rfl))) (mvT hZ (hw _ (List.mem_of_getElem? (i := 116) rfl))) (mvT hZ (hw _ (List.mem_of_getElem? (i := 117) rfl))) (by decide) (backOf (W := 0) (rm_max0 l Z a0 hw [] wG1 wO2 wP5 wG3 wO4 wrG3 hstr hEL h0 n0 X00 ) hZ (hw _ (List.mem_of_getElem? (i := 117) rfl)) (hw _ (List.mem_of_getElem? (i := 116) rfl)) (by decide) (by decide)) (g := (mkF m 11 #[.val (.ref t), .val (.int q), .val (.int (0 : Int32)), .val (.int (3 : Int32))] [(.int (0 : Int32)), (.int (0 : Int32))])) rfl (by rw [hml]; rfl) (argsL := [(.int (0 : Int32)), (.int (0 : Int32))]) (rest := []) (lenOf pd_50523903 rfl) rfl (by show 2 * 0 + _ ≤ _; exact Nat.le_of_eq rfl) (hb hby dd_jdk_43_method_22_11) (fun _ _ => ⟨rfl, eq1, (by decide : 0 + 0 ≤ _), (by decide : 0 + 0 ≤ _)⟩)
  dsimp only [Pt.U, Pt.locs, Pt.cells, Pt.slots] at X2 l2 y2 z2 st2 hQ2
  subst l2 y2 z2
  obtain ⟨rfl, Nq2, eq2⟩ := hQ2
  refine OwnGoes.step (T' := T2) (g' := (mkF m 14 #[.val (.ref t), .val (.int q), .val (.int (0 : Int32)), .val (.int (3 : Int32))] [(.int (0 : Int32))])) st2 ?_
  have N2 := Fr.app N1 Nq2
  refine OwnGoes.step (T' := T2) (g' := (mkF m 18 #[.val (.ref t), .val (.int q), .val (.int (0 : Int32)), .val (.int (3 : Int32))] [(.int (3 : Int32)), (.int (3 : Int32))])) (fun tgt kgo => ?_) ?_
  · show Steps p.tables e below (T2.setTop (mkF m 14 #[.val (.ref t), .val (.int q), .val (.int (0 : Int32)), .val (.int (3 : Int32))] [(.int (0 : Int32))])) tgt
    refine XS.istoreN X2.here hx rfl (hb hby dd_jdk_43_method_22_14) rfl (l' := #[.val (.ref t), .val (.int q), .val (.int (0 : Int32)), .val (.int (3 : Int32))]) rfl ?_
    show Steps p.tables e below (T2.setTop (mkF m 15 #[.val (.ref t), .val (.int q), .val (.int (0 : Int32)), .val (.int (3 : Int32))] [])) tgt
    refine XS.iloadN X2.here hx rfl (hb hby dd_jdk_43_method_22_15) rfl ?_
    show Steps p.tables e below (T2.setTop (mkF m 16 #[.val (.ref t), .val (.int q), .val (.int (0 : Int32)), .val (.int (3 : Int32))] [(.int (3 : Int32))])) tgt
    refine XS.aloadN X2.here hx rfl (hb hby dd_jdk_43_method_22_16) rfl rfl ?_
    show Steps p.tables e below (T2.setTop (mkF m 17 #[.val (.ref t), .val (.int q), .val (.int (0 : Int32)), .val (.int (3 : Int32))] [(.ref t), (.int (3 : Int32))])) tgt
    obtain ⟨cl3, Ar3, q3, S3, M3, -, -⟩ := f0
    refine X2.arraylength hx (by rw [eq2]; exact Ar3.1) (State.isArrayOf_alike hZ.alike Ar3.2.1) (g := (mkF m 17 #[.val (.ref t), .val (.int q), .val (.int (0 : Int32)), .val (.int (3 : Int32))] [(.ref t), (.int (3 : Int32))])) rfl rfl (hb hby dd_jdk_43_method_22_17) _ ?_
    rw [len_of S3 M3]
    exact kgo
  obtain ⟨_, _, ⟨T4, L4, k4, n4⟩, -, X4, ⟨Lc4, hQ4, l4, y4, z4⟩, st4⟩ := Jvm.LawKit.callS X2 hx (y := (⟨"java/lang/Math", "min", "(II)I"⟩ : MethodName)) hown (mvT hZ (hw _ (List.mem_of_getElem? (i := 118) rfl))) (mvT hZ (hw _ (List.mem_of_getElem? (i := 119) rfl))) (mvT hZ (hw _ (List.mem_of_getElem? (i := 116) rfl))) (mvT hZ (hw _ (List.mem_of_getElem? (i := 120) rfl))) (by decide) (backOf (W := 0) (rm_min3 l Z a0 hw [] wG1 wO2 wP5 wG3 wO4 wrG3 hstr hEL h0 n0 X00 ) hZ (hw _ (List.mem_of_getElem? (i := 120) rfl)) (hw _ (List.mem_of_getElem? (i := 116) rfl)) (by decide) (by decide)) (g := (mkF m 18 #[.val (.ref t), .val (.int q), .val (.int (0 : Int32)), .val (.int (3 : Int32))] [(.int (3 : Int32)), (.int (3 : Int32))])) rfl (by rw [hml]; rfl) (argsL := [(.int (3 : Int32)), (.int (3 : Int32))]) (rest := []) (lenOf pd_50523903 rfl) rfl (by show 2 * 0 + _ ≤ _; exact Nat.le_of_eq rfl) (hb hby dd_jdk_43_method_22_18) (fun _ _ => ⟨rfl, eq2, (by decide : 0 + 0 ≤ _), (by decide : 0 + 0 ≤ _)⟩)
  dsimp only [Pt.U, Pt.locs, Pt.cells, Pt.slots] at X4 l4 y4 z4 st4 hQ4
  subst l4 y4 z4
  obtain ⟨rfl, Nq4, eq4⟩ := hQ4
  refine OwnGoes.step (T' := T4) (g' := (mkF m 21 #[.val (.ref t), .val (.int q), .val (.int (0 : Int32)), .val (.int (3 : Int32))] [(.int (3 : Int32))])) st4 ?_
  have N4 := Fr.app N2 Nq4
  refine OwnGoes.step (T' := T4) (g' := (mkF m 33 #[.val (.ref t), .val (.int q), .val (.int (0 : Int32)), .val (.int (3 : Int32))] [(.int (3 : Int32)), (.int (0 : Int32)), (.int q), (.ref t)])) (fun tgt kgo => ?_) ?_
  · show Steps p.tables e below (T4.setTop (mkF m 21 #[.val (.ref t), .val (.int q), .val (.int (0 : Int32)), .val (.int (3 : Int32))] [(.int (3 : Int32))])) tgt
    refine XS.istoreN X4.here hx rfl (hb hby dd_jdk_43_method_22_21) rfl (l' := #[.val (.ref t), .val (.int q), .val (.int (0 : Int32)), .val (.int (3 : Int32))]) rfl ?_
    show Steps p.tables e below (T4.setTop (mkF m 22 #[.val (.ref t), .val (.int q), .val (.int (0 : Int32)), .val (.int (3 : Int32))] [])) tgt
    refine XS.iloadN X4.here hx rfl (hb hby dd_jdk_43_method_22_22) rfl ?_
    show Steps p.tables e below (T4.setTop (mkF m 23 #[.val (.ref t), .val (.int q), .val (.int (0 : Int32)), .val (.int (3 : Int32))] [(.int (0 : Int32))])) tgt
    refine XS.iloadN X4.here hx rfl (hb hby dd_jdk_43_method_22_23) rfl ?_
    show Steps p.tables e below (T4.setTop (mkF m 24 #[.val (.ref t), .val (.int q), .val (.int (0 : Int32)), .val (.int (3 : Int32))] [(.int (3 : Int32)), (.int (0 : Int32))])) tgt
    refine XS.icmpYes X4.here hx rfl (pc0 := 24) (pc' := 29) rfl (hb hby dd_jdk_43_method_22_24) rfl (tlt (by decide : (0 : Int32) < (3 : Int32))).1 (by decide) (by decide) ?_
    show Steps p.tables e below (T4.setTop (mkF m 29 #[.val (.ref t), .val (.int q), .val (.int (0 : Int32)), .val (.int (3 : Int32))] [])) tgt
    refine XS.aloadN X4.here hx rfl (hb hby dd_jdk_43_method_22_29) rfl rfl ?_
    show Steps p.tables e below (T4.setTop (mkF m 30 #[.val (.ref t), .val (.int q), .val (.int (0 : Int32)), .val (.int (3 : Int32))] [(.ref t)])) tgt
    refine XS.iloadN X4.here hx rfl (hb hby dd_jdk_43_method_22_30) rfl ?_
    show Steps p.tables e below (T4.setTop (mkF m 31 #[.val (.ref t), .val (.int q), .val (.int (0 : Int32)), .val (.int (3 : Int32))] [(.int q), (.ref t)])) tgt
    refine XS.iloadN X4.here hx rfl (hb hby dd_jdk_43_method_22_31) rfl ?_
    show Steps p.tables e below (T4.setTop (mkF m 32 #[.val (.ref t), .val (.int q), .val (.int (0 : Int32)), .val (.int (3 : Int32))] [(.int (0 : Int32)), (.int q), (.ref t)])) tgt
    refine XS.iloadN X4.here hx rfl (hb hby dd_jdk_43_method_22_32) rfl ?_
    exact kgo
  obtain ⟨_, _, ⟨T5, L5, k5, n5⟩, -, X5, ⟨Lc5, hQ5, l5, y5, z5⟩, st5⟩ := Jvm.LawKit.callS X4 hx (y := (⟨"java/lang/StringLatin1", "indexOfChar", "([BIII)I"⟩ : MethodName)) hown (mvT hZ (hw _ (List.mem_of_getElem? (i := 121) rfl))) (mvT hZ (hw _ (List.mem_of_getElem? (i := 122) rfl))) (mvT hZ (hw _ (List.mem_of_getElem? (i := 39) rfl))) (mvT hZ (hw _ (List.mem_of_getElem? (i := 123) rfl))) (by decide) (backOf (W := 0) (rm_ioc3 l Z a0 hw [] wG1 wO2 wP5 wG3 wO4 wrG3 hstr hEL h0 n0 X00 t k q c0 c1 c2 f0 hq hc0 hc1 hc2) hZ (hw _ (List.mem_of_getElem? (i := 123) rfl)) (hw _ (List.mem_of_getElem? (i := 39) rfl)) (by decide) (by decide)) (g := (mkF m 33 #[.val (.ref t), .val (.int q), .val (.int (0 : Int32)), .val (.int (3 : Int32))] [(.int (3 : Int32)), (.int (0 : Int32)), (.int q), (.ref t)])) rfl (by rw [hml]; rfl) (argsL := [(.ref t), (.int q), (.int (0 : Int32)), (.int (3 : Int32))]) (rest := []) (lenOf pd_68989375 rfl) rfl (by show 2 * 0 + _ ≤ _; exact Nat.le_of_eq rfl) (hb hby dd_jdk_43_method_22_33) (fun _ _ => ⟨rfl, eq4, (by decide : 0 + 0 ≤ _), (by decide : 0 + 0 ≤ _)⟩)
  dsimp only [Pt.U, Pt.locs, Pt.cells, Pt.slots] at X5 l5 y5 z5 st5 hQ5
  subst l5 y5 z5
  obtain ⟨r_5, rfl, Nq5, eq5, pq5_0⟩ := hQ5
  refine OwnGoes.step (T' := T5) (g' := (mkF m 36 #[.val (.ref t), .val (.int q), .val (.int (0 : Int32)), .val (.int (3 : Int32))] [(.int r_5)])) st5 ?_
  have N5 := Fr.app N4 Nq5
  refine own_leave X5 hlk (v := some (.int r_5)) (fun h => by rw [Bd.returns] at h; cases h) (fun fs hr => retI X5 hx Bd.returns (hb hby dd_jdk_43_method_22_36) hr) (by decide) (by decide) ?_
  show Q_iol3 Z t k q c0 c1 c2 h0 n0 _ T5.heap _
  rw [eq5]
  exact ⟨r_5, rfl, N5, rfl, pq5_0⟩
theorem ef_io2_3 (m : MethodId) (x0 : Addr) (x1 : Int32) : entryFrame m #[(.ref x0), (.int x1), (.int (0 : Int32))] 3 = mkF m 0 #[.val (.ref x0), .val (.int x1), .val (.int (0 : Int32))] [] := by first | (simp [entryFrame, mkF, argsToLocals, Value.category]; done) | rfl
def Q_io2_3 (Z : State) (a1 : Addr) (t : Addr) (k : ClassId) (q : Int32) (c0 : Int32) (c1 : Int32) (c2 : Int32) (h0 : Heap) (n0 : Nat) (v : Option Value) (h : Heap) (L : List Loc) : Prop := ∃ (r : Int32), v = some (.int r) ∧ Fr n0 L ∧ h = h0 ∧ (((q = c0 ∨ q = c1 ∨ q = c2) ∧ ¬ r < 0) ∨ (¬ (q = c0 ∨ q = c1 ∨ q = c2) ∧ r < 0))
set_option maxRecDepth 65536 in
set_option maxHeartbeats 40000000 in
theorem rm_io2_3 (l : Launch) (Z : State) (a0 : Array Value) (hw : ∀ d ∈ tables_1, d.before a0 Z = true) (ws : List Jvm.Cond) (wG1 : Int32) (wO2 : Sta Z Z.heap "java/lang/String" "COMPACT_STRINGS" "Z" (.int wG1)) (wP5 : ¬ (wG1 = (0 : Int32))) (wG3 : Value) (wO4 : Sta Z Z.heap "jdk/internal/util/Preconditions" "SIOOBE_FORMATTER" "Ljava/util/function/BiFunction;" wG3) (wrG3 : wG3.isRef = true) (hstr : ∀ a ∈ Bundle.stringAtoms, a.before a0 Z = true) (hEL : EW Z a0 consts_1) (h0 : Heap) (n0 : Nat) (X00 : Old Z n0 h0) (a1 : Addr) (t : Addr) (k : ClassId) (q : Int32) (c0 : Int32) (c1 : Int32) (c2 : Int32) (f0 : Exa Z h0 a1 "java/lang/String") (f1 : Fld Z h0 a1 "java/lang/String" "value" "[B" (.ref t)) (f2 : Fld Z h0 a1 "java/lang/String" "coder" "B" (.int (0 : Int32))) (f3 : Arv Z h0 t k .byte (3 : Int32) ((([c0, c1, c2] : List Int32).map (fun c => c.toInt8.toInt32)).map Value.int) (.int (0 : Int32))) (hq : ¬ q < 0 ∧ ¬ (255 : Int32) < q) (hc0 : ¬ c0 < 0 ∧ ¬ (255 : Int32) < c0) (hc1 : ¬ c1 < 0 ∧ ¬ (255 : Int32) < c1) (hc2 : ¬ c2 < 0 ∧ ¬ (255 : Int32) < c2) :
    MetFree l (⟨"java/lang/String", "indexOf", "(II)I"⟩ : MethodName) (head1 (Jvm.Cond.code (⟨"java/lang/String", "indexOf", "(II)I"⟩ : MethodName) jdk_42_method_80_code 3 (some .int) :: ws) ({ frames := 2, cells := 0, slots := 0, locals := 32 } : Room)) (fun a U => a = #[(.ref a1), (.int q), (.int (0 : Int32))] ∧ Z.Warmed39 U.vm ∧ U.heap = h0) (fun _ _ _ _ _ => True) (fun _ U o U' => ∃ v L, o = .returned v ∧ Q_io2_3 Z a1 t k q c0 c1 c2 h0 n0 v U'.heap L ∧ FrameEnd U o U' L ({ frames := 2, cells := 0, slots := 0, locals := 32 } : Room).cells ({ frames := 2, cells := 0, slots := 0, locals := 32 } : Room).slots) := by
  refine MetFree.of_bodySF (plainFor_of_name pn_52039224) hisR ?_
  intro p e s m args below meth c s₁ Bd hml0 hP hK
  obtain ⟨rfl, hZ, hh⟩ := hP
  have hx := Bd.exec
  have hby := Bd.bytes
  have hlk := Bd.notSynchronized
  have hml : c.maxLocals = 3 := hml0
  have hown : s.vm.findClass "java/lang/String" = some m.cls := findClass_of_methodNamed Bd.named
  have hnm := (name_of_methodNamed Bd.named Bd.method).1
  have X0 : Stand p l e ({ frames := 2, cells := 0, slots := 0, locals := 32 } : Room) s m #[(.ref a1), (.int q), (.int (0 : Int32))] below meth c s₁ [] 0 0 := Stand.of_body Bd
  have e0 : s₁.heap = h0 := by rw [← hh, Bd.state]; rfl
  have N0 := Fr.nil n0
  have Z0 : n0 ≤ h0.size := X00.1 ▸ X00.2.1
  have K0 : Keep h0 h0 ([] : List Addr) := Keep.refl _ _
  show OwnGoes p e below (fun o U' => ∃ v L, o = .returned v ∧ Q_io2_3 Z a1 t k q c0 c1 c2 h0 n0 v U'.heap L ∧ FrameEnd s o U' L ({ frames := 2, cells := 0, slots := 0, locals := 32 } : Room).cells ({ frames := 2, cells := 0, slots := 0, locals := 32 } : Room).slots) s₁ (entryFrame m #[(.ref a1), (.int q), (.int (0 : Int32))] 3)
  refine OwnGoes.step (T' := s₁) (g' := (mkF m 0 #[.val (.ref a1), .val (.int q), .val (.int (0 : Int32))] [])) (fun tgt kgo => castTop (ef_io2_3 m a1 q) kgo) ?_
  refine OwnGoes.step (T' := s₁) (g' := (mkF m 1 #[.val (.ref a1), .val (.int q), .val (.int (0 : Int32))] [(.ref a1)])) (fun tgt kgo => ?_) ?_
  · show Steps p.tables e below (s₁.setTop (mkF m 0 #[.val (.ref a1), .val (.int q), .val (.int (0 : Int32))] [])) tgt
    refine XS.aloadN X0.here hx rfl (hb hby dd_jdk_42_method_80_0) rfl rfl ?_
    exact kgo
  obtain ⟨cq1, kq1, q1a, q1b, q1c⟩ := isOf (s := s) hZ e0 f0
  obtain ⟨_, _, ⟨T1, L1, k1, n1⟩, -, X1, ⟨Lc1, hQ1, l1, y1, z1⟩, st1⟩ := X0.virtualBack hx (y := (⟨"java/lang/String", "isLatin1", "()Z"⟩ : MethodName)) (z := (⟨"java/lang/String", "isLatin1", "()Z"⟩ : MethodName)) hown (mvT hZ (hw _ (List.mem_of_getElem? (i := 93) rfl))) (mvT hZ (hw _ (List.mem_of_getElem? (i := 94) rfl))) (notFace_of_selects (args := #[]) (mvT hZ (hw _ (List.mem_of_getElem? (i := 96) rfl)))) (mvT hZ (hw _ (List.mem_of_getElem? (i := 96) rfl))) (mvT hZ (hw _ (List.mem_of_getElem? (i := 95) rfl))) (by decide) (backOf (W := 0) (rm_isl l Z a0 hw [] wG1 wO2 wP5 wG3 wO4 wrG3 hstr hEL h0 n0 X00 a1 f2) hZ (hw _ (List.mem_of_getElem? (i := 97) rfl)) (hw _ (List.mem_of_getElem? (i := 6) rfl)) (by decide) (by decide)) q1a q1c (g := (mkF m 1 #[.val (.ref a1), .val (.int q), .val (.int (0 : Int32))] [(.ref a1)])) rfl (by rw [hml]; rfl) (Steps.refl _) (argsL := []) (rest := []) (lenOf pd_15861835 rfl) rfl (by show 2 * 0 + _ ≤ _; exact Nat.le_of_eq rfl) (hb hby dd_jdk_42_method_80_1) (fun _ _ => ⟨rfl, e0, (by decide : 0 + 0 ≤ _), (by decide : 0 + 0 ≤ _)⟩)
  dsimp only [Pt.U, Pt.locs, Pt.cells, Pt.slots] at X1 l1 y1 z1 st1 hQ1
  subst l1 y1 z1
  obtain ⟨rfl, Nq1, eq1⟩ := hQ1
  refine OwnGoes.tr (T' := T1) (g' := (mkF m 4 #[.val (.ref a1), .val (.int q), .val (.int (0 : Int32))] [(.int (1 : Int32))])) st1 ?_
  have N1 := Fr.app N0 Nq1
  refine OwnGoes.step (T' := T1) (g' := (mkF m 8 #[.val (.ref a1), .val (.int q), .val (.int (0 : Int32))] [(.ref a1)])) (fun tgt kgo => ?_) ?_
  · show Steps p.tables e below (T1.setTop (mkF m 4 #[.val (.ref a1), .val (.int q), .val (.int (0 : Int32))] [(.int (1 : Int32))])) tgt
    refine XS.ifNo X1.here hx rfl (hb hby dd_jdk_42_method_80_4) rfl ((if0 _ _).trans (feq (by decide : ¬ ((1 : Int32) = (0 : Int32)))).1) ?_
    show Steps p.tables e below (T1.setTop (mkF m 7 #[.val (.ref a1), .val (.int q), .val (.int (0 : Int32))] [])) tgt
    refine XS.aloadN X1.here hx rfl (hb hby dd_jdk_42_method_80_7) rfl rfl ?_
    exact kgo
  obtain ⟨T2, X2, e2, st2⟩ := getF X1 hx hZ hown (host := "") (Or.inl (hw _ (List.mem_of_getElem? (i := 32) rfl))) Via.refl eq1 f1 (g := (mkF m 8 #[.val (.ref a1), .val (.int q), .val (.int (0 : Int32))] [(.ref a1)])) rfl rfl (hb hby dd_jdk_42_method_80_8)
  refine OwnGoes.step (T' := T2) (g' := (mkF m 11 #[.val (.ref a1), .val (.int q), .val (.int (0 : Int32))] [(.ref t)])) st2 ?_
  refine OwnGoes.step (T' := T2) (g' := (mkF m 14 #[.val (.ref a1), .val (.int q), .val (.int (0 : Int32))] [(.ref a1), (.int (0 : Int32)), (.int q), (.ref t)])) (fun tgt kgo => ?_) ?_
  · show Steps p.tables e below (T2.setTop (mkF m 11 #[.val (.ref a1), .val (.int q), .val (.int (0 : Int32))] [(.ref t)])) tgt
    refine XS.iloadN X2.here hx rfl (hb hby dd_jdk_42_method_80_11) rfl ?_
    show Steps p.tables e below (T2.setTop (mkF m 12 #[.val (.ref a1), .val (.int q), .val (.int (0 : Int32))] [(.int q), (.ref t)])) tgt
    refine XS.iloadN X2.here hx rfl (hb hby dd_jdk_42_method_80_12) rfl ?_
    show Steps p.tables e below (T2.setTop (mkF m 13 #[.val (.ref a1), .val (.int q), .val (.int (0 : Int32))] [(.int (0 : Int32)), (.int q), (.ref t)])) tgt
    refine XS.aloadN X2.here hx rfl (hb hby dd_jdk_42_method_80_13) rfl rfl ?_
    exact kgo
  obtain ⟨cq3, kq3, q3a, q3b, q3c⟩ := isOf (s := s) hZ e2 f0
  obtain ⟨_, _, ⟨T3, L3, k3, n3⟩, -, X3, ⟨Lc3, hQ3, l3, y3, z3⟩, st3⟩ := X2.virtualBack hx (y := (⟨"java/lang/String", "length", "()I"⟩ : MethodName)) (z := (⟨"java/lang/String", "length", "()I"⟩ : MethodName)) hown (mvT hZ (hw _ (List.mem_of_getElem? (i := 98) rfl))) (mvT hZ (hw _ (List.mem_of_getElem? (i := 99) rfl))) (notFace_of_selects (args := #[]) (mvT hZ (hw _ (List.mem_of_getElem? (i := 101) rfl)))) (mvT hZ (hw _ (List.mem_of_getElem? (i := 101) rfl))) (mvT hZ (hw _ (List.mem_of_getElem? (i := 100) rfl))) (by decide) (backOf (W := 3) (rm_len3 l Z a0 hw [] wG1 wO2 wP5 wG3 wO4 wrG3 hstr hEL h0 n0 X00 a1 t k c0 c1 c2 f0 f1 f2 f3) hZ (hw _ (List.mem_of_getElem? (i := 102) rfl)) (hw _ (List.mem_of_getElem? (i := 6) rfl)) (by decide) (by decide)) q3a q3c (g := (mkF m 14 #[.val (.ref a1), .val (.int q), .val (.int (0 : Int32))] [(.ref a1), (.int (0 : Int32)), (.int q), (.ref t)])) rfl (by rw [hml]; rfl) (Steps.refl _) (argsL := []) (rest := [(.int (0 : Int32)), (.int q), (.ref t)]) (lenOf pd_86913941 rfl) rfl (by show 2 * 0 + _ ≤ _; exact Nat.le_of_eq rfl) (hb hby dd_jdk_42_method_80_14) (fun _ _ => ⟨rfl, e2, (by decide : 0 + 0 ≤ _), (by decide : 0 + 0 ≤ _)⟩)
  dsimp only [Pt.U, Pt.locs, Pt.cells, Pt.slots] at X3 l3 y3 z3 st3 hQ3
  subst l3 y3 z3
  obtain ⟨rfl, Nq3, eq3⟩ := hQ3
  refine OwnGoes.tr (T' := T3) (g' := (mkF m 17 #[.val (.ref a1), .val (.int q), .val (.int (0 : Int32))] [(.int (3 : Int32)), (.int (0 : Int32)), (.int q), (.ref t)])) st3 ?_
  have N3 := Fr.app N1 Nq3
  obtain ⟨_, _, ⟨T4, L4, k4, n4⟩, -, X4, ⟨Lc4, hQ4, l4, y4, z4⟩, st4⟩ := Jvm.LawKit.callS X3 hx (y := (⟨"java/lang/StringLatin1", "indexOf", "([BIII)I"⟩ : MethodName)) hown (mvT hZ (hw _ (List.mem_of_getElem? (i := 108) rfl))) (mvT hZ (hw _ (List.mem_of_getElem? (i := 109) rfl))) (mvT hZ (hw _ (List.mem_of_getElem? (i := 39) rfl))) (mvT hZ (hw _ (List.mem_of_getElem? (i := 110) rfl))) (by decide) (backOf (W := 0) (rm_iol3 l Z a0 hw [] wG1 wO2 wP5 wG3 wO4 wrG3 hstr hEL h0 n0 X00 t k q c0 c1 c2 f3 hq hc0 hc1 hc2) hZ (hw _ (List.mem_of_getElem? (i := 110) rfl)) (hw _ (List.mem_of_getElem? (i := 39) rfl)) (by decide) (by decide)) (g := (mkF m 17 #[.val (.ref a1), .val (.int q), .val (.int (0 : Int32))] [(.int (3 : Int32)), (.int (0 : Int32)), (.int q), (.ref t)])) rfl (by rw [hml]; rfl) (argsL := [(.ref t), (.int q), (.int (0 : Int32)), (.int (3 : Int32))]) (rest := []) (lenOf pd_68989375 rfl) rfl (by show 2 * 0 + _ ≤ _; exact Nat.le_of_eq rfl) (hb hby dd_jdk_42_method_80_17) (fun _ _ => ⟨rfl, eq3, (by decide : 0 + 0 ≤ _), (by decide : 0 + 0 ≤ _)⟩)
  dsimp only [Pt.U, Pt.locs, Pt.cells, Pt.slots] at X4 l4 y4 z4 st4 hQ4
  subst l4 y4 z4
  obtain ⟨r_4, rfl, Nq4, eq4, pq4_0⟩ := hQ4
  refine OwnGoes.step (T' := T4) (g' := (mkF m 20 #[.val (.ref a1), .val (.int q), .val (.int (0 : Int32))] [(.int r_4)])) st4 ?_
  have N4 := Fr.app N3 Nq4
  refine OwnGoes.step (T' := T4) (g' := (mkF m 36 #[.val (.ref a1), .val (.int q), .val (.int (0 : Int32))] [(.int r_4)])) (fun tgt kgo => ?_) ?_
  · show Steps p.tables e below (T4.setTop (mkF m 20 #[.val (.ref a1), .val (.int q), .val (.int (0 : Int32))] [(.int r_4)])) tgt
    refine XS.goto X4.here hx rfl (pc0 := 20) (pc' := 36) rfl (hb hby dd_jdk_42_method_80_20) (by decide) (by decide) ?_
    exact kgo
  refine own_leave X4 hlk (v := some (.int r_4)) (fun h => by rw [Bd.returns] at h; cases h) (fun fs hr => retI X4 hx Bd.returns (hb hby dd_jdk_42_method_80_36) hr) (by decide) (by decide) ?_
  show Q_io2_3 Z a1 t k q c0 c1 c2 h0 n0 _ T4.heap _
  rw [eq4]
  exact ⟨r_4, rfl, N4, rfl, pq4_0⟩
theorem ef_io1_3 (m : MethodId) (x0 : Addr) (x1 : Int32) : entryFrame m #[(.ref x0), (.int x1)] 2 = mkF m 0 #[.val (.ref x0), .val (.int x1)] [] := by first | (simp [entryFrame, mkF, argsToLocals, Value.category]; done) | rfl
def Q_io1_3 (Z : State) (a1 : Addr) (t : Addr) (k : ClassId) (q : Int32) (c0 : Int32) (c1 : Int32) (c2 : Int32) (h0 : Heap) (n0 : Nat) (v : Option Value) (h : Heap) (L : List Loc) : Prop := ∃ (r : Int32), v = some (.int r) ∧ Fr n0 L ∧ h = h0 ∧ (((q = c0 ∨ q = c1 ∨ q = c2) ∧ ¬ r < 0) ∨ (¬ (q = c0 ∨ q = c1 ∨ q = c2) ∧ r < 0))
set_option maxRecDepth 65536 in
set_option maxHeartbeats 40000000 in
theorem rm_io1_3 (l : Launch) (Z : State) (a0 : Array Value) (hw : ∀ d ∈ tables_1, d.before a0 Z = true) (ws : List Jvm.Cond) (wG1 : Int32) (wO2 : Sta Z Z.heap "java/lang/String" "COMPACT_STRINGS" "Z" (.int wG1)) (wP5 : ¬ (wG1 = (0 : Int32))) (wG3 : Value) (wO4 : Sta Z Z.heap "jdk/internal/util/Preconditions" "SIOOBE_FORMATTER" "Ljava/util/function/BiFunction;" wG3) (wrG3 : wG3.isRef = true) (hstr : ∀ a ∈ Bundle.stringAtoms, a.before a0 Z = true) (hEL : EW Z a0 consts_1) (h0 : Heap) (n0 : Nat) (X00 : Old Z n0 h0) (a1 : Addr) (t : Addr) (k : ClassId) (q : Int32) (c0 : Int32) (c1 : Int32) (c2 : Int32) (f0 : Exa Z h0 a1 "java/lang/String") (f1 : Fld Z h0 a1 "java/lang/String" "value" "[B" (.ref t)) (f2 : Fld Z h0 a1 "java/lang/String" "coder" "B" (.int (0 : Int32))) (f3 : Arv Z h0 t k .byte (3 : Int32) ((([c0, c1, c2] : List Int32).map (fun c => c.toInt8.toInt32)).map Value.int) (.int (0 : Int32))) (hq : ¬ q < 0 ∧ ¬ (255 : Int32) < q) (hc0 : ¬ c0 < 0 ∧ ¬ (255 : Int32) < c0) (hc1 : ¬ c1 < 0 ∧ ¬ (255 : Int32) < c1) (hc2 : ¬ c2 < 0 ∧ ¬ (255 : Int32) < c2) :
    MetFree l (⟨"java/lang/String", "indexOf", "(I)I"⟩ : MethodName) (head1 (Jvm.Cond.code (⟨"java/lang/String", "indexOf", "(I)I"⟩ : MethodName) jdk_42_method_79_code 2 (some .int) :: ws) ({ frames := 3, cells := 0, slots := 0, locals := 46 } : Room)) (fun a U => a = #[(.ref a1), (.int q)] ∧ Z.Warmed39 U.vm ∧ U.heap = h0) (fun _ _ _ _ _ => True) (fun _ U o U' => ∃ v L, o = .returned v ∧ Q_io1_3 Z a1 t k q c0 c1 c2 h0 n0 v U'.heap L ∧ FrameEnd U o U' L ({ frames := 3, cells := 0, slots := 0, locals := 46 } : Room).cells ({ frames := 3, cells := 0, slots := 0, locals := 46 } : Room).slots) := by
  refine MetFree.of_bodySF (plainFor_of_name pn_52039224) hisR ?_
  intro p e s m args below meth c s₁ Bd hml0 hP hK
  obtain ⟨rfl, hZ, hh⟩ := hP
  have hx := Bd.exec
  have hby := Bd.bytes
  have hlk := Bd.notSynchronized
  have hml : c.maxLocals = 2 := hml0
  have hown : s.vm.findClass "java/lang/String" = some m.cls := findClass_of_methodNamed Bd.named
  have hnm := (name_of_methodNamed Bd.named Bd.method).1
  have X0 : Stand p l e ({ frames := 3, cells := 0, slots := 0, locals := 46 } : Room) s m #[(.ref a1), (.int q)] below meth c s₁ [] 0 0 := Stand.of_body Bd
  have e0 : s₁.heap = h0 := by rw [← hh, Bd.state]; rfl
  have N0 := Fr.nil n0
  have Z0 : n0 ≤ h0.size := X00.1 ▸ X00.2.1
  have K0 : Keep h0 h0 ([] : List Addr) := Keep.refl _ _
  show OwnGoes p e below (fun o U' => ∃ v L, o = .returned v ∧ Q_io1_3 Z a1 t k q c0 c1 c2 h0 n0 v U'.heap L ∧ FrameEnd s o U' L ({ frames := 3, cells := 0, slots := 0, locals := 46 } : Room).cells ({ frames := 3, cells := 0, slots := 0, locals := 46 } : Room).slots) s₁ (entryFrame m #[(.ref a1), (.int q)] 2)
  refine OwnGoes.step (T' := s₁) (g' := (mkF m 0 #[.val (.ref a1), .val (.int q)] [])) (fun tgt kgo => castTop (ef_io1_3 m a1 q) kgo) ?_
  refine OwnGoes.step (T' := s₁) (g' := (mkF m 3 #[.val (.ref a1), .val (.int q)] [(.int (0 : Int32)), (.int q), (.ref a1)])) (fun tgt kgo => ?_) ?_
  · show Steps p.tables e below (s₁.setTop (mkF m 0 #[.val (.ref a1), .val (.int q)] [])) tgt
    refine XS.aloadN X0.here hx rfl (hb hby dd_jdk_42_method_79_0) rfl rfl ?_
    show Steps p.tables e below (s₁.setTop (mkF m 1 #[.val (.ref a1), .val (.int q)] [(.ref a1)])) tgt
    refine XS.iloadN X0.here hx rfl (hb hby dd_jdk_42_method_79_1) rfl ?_
    show Steps p.tables e below (s₁.setTop (mkF m 2 #[.val (.ref a1), .val (.int q)] [(.int q), (.ref a1)])) tgt
    refine XS.iconst X0.here hx rfl (hb hby dd_jdk_42_method_79_2) ?_
    exact kgo
  obtain ⟨cq1, kq1, q1a, q1b, q1c⟩ := isOf (s := s) hZ e0 f0
  obtain ⟨_, _, ⟨T1, L1, k1, n1⟩, -, X1, ⟨Lc1, hQ1, l1, y1, z1⟩, st1⟩ := X0.virtualBack hx (y := (⟨"java/lang/String", "indexOf", "(II)I"⟩ : MethodName)) (z := (⟨"java/lang/String", "indexOf", "(II)I"⟩ : MethodName)) hown (mvT hZ (hw _ (List.mem_of_getElem? (i := 88) rfl))) (mvT hZ (hw _ (List.mem_of_getElem? (i := 89) rfl))) (notFace_of_selects (args := #[]) (mvT hZ (hw _ (List.mem_of_getElem? (i := 91) rfl)))) (mvT hZ (hw _ (List.mem_of_getElem? (i := 91) rfl))) (mvT hZ (hw _ (List.mem_of_getElem? (i := 90) rfl))) (by decide) (backOf (W := 0) (rm_io2_3 l Z a0 hw [] wG1 wO2 wP5 wG3 wO4 wrG3 hstr hEL h0 n0 X00 a1 t k q c0 c1 c2 f0 f1 f2 f3 hq hc0 hc1 hc2) hZ (hw _ (List.mem_of_getElem? (i := 92) rfl)) (hw _ (List.mem_of_getElem? (i := 6) rfl)) (by decide) (by decide)) q1a q1c (g := (mkF m 3 #[.val (.ref a1), .val (.int q)] [(.int (0 : Int32)), (.int q), (.ref a1)])) rfl (by rw [hml]; rfl) (Steps.refl _) (argsL := [(.int q), (.int (0 : Int32))]) (rest := []) (lenOf pd_50523903 rfl) rfl (by show 2 * 0 + _ ≤ _; exact Nat.le_of_eq rfl) (hb hby dd_jdk_42_method_79_3) (fun _ _ => ⟨rfl, e0, (by decide : 0 + 0 ≤ _), (by decide : 0 + 0 ≤ _)⟩)
  dsimp only [Pt.U, Pt.locs, Pt.cells, Pt.slots] at X1 l1 y1 z1 st1 hQ1
  subst l1 y1 z1
  obtain ⟨r_1, rfl, Nq1, eq1, pq1_0⟩ := hQ1
  refine OwnGoes.tr (T' := T1) (g' := (mkF m 6 #[.val (.ref a1), .val (.int q)] [(.int r_1)])) st1 ?_
  have N1 := Fr.app N0 Nq1
  refine own_leave X1 hlk (v := some (.int r_1)) (fun h => by rw [Bd.returns] at h; cases h) (fun fs hr => retI X1 hx Bd.returns (hb hby dd_jdk_42_method_79_6) hr) (by decide) (by decide) ?_
  show Q_io1_3 Z a1 t k q c0 c1 c2 h0 n0 _ T1.heap _
  rw [eq1]
  exact ⟨r_1, rfl, N1, rfl, pq1_0⟩
theorem ef_alw3 (m : MethodId) (x0 : Addr) (x1 : Int32) : entryFrame m #[(.ref x0), (.int x1)] 2 = mkF m 0 #[.val (.ref x0), .val (.int x1)] [] := by first | (simp [entryFrame, mkF, argsToLocals, Value.category]; done) | rfl
def Q_alw3 (Z : State) (o1 : Addr) (a1 : Addr) (t : Addr) (k : ClassId) (q : Int32) (c0 : Int32) (c1 : Int32) (c2 : Int32) (h0 : Heap) (n0 : Nat) (v : Option Value) (h : Heap) (L : List Loc) : Prop := ∃ (r : Int32), v = some (.int r) ∧ Fr n0 L ∧ h = h0 ∧ (((q = c0 ∨ q = c1 ∨ q = c2) ∧ r = 1) ∨ (¬ (q = c0 ∨ q = c1 ∨ q = c2) ∧ r = 0))
set_option maxRecDepth 65536 in
set_option maxHeartbeats 40000000 in
theorem rm_alw3 (l : Launch) (Z : State) (a0 : Array Value) (hw : ∀ d ∈ tables_1, d.before a0 Z = true) (ws : List Jvm.Cond) (wG1 : Int32) (wO2 : Sta Z Z.heap "java/lang/String" "COMPACT_STRINGS" "Z" (.int wG1)) (wP5 : ¬ (wG1 = (0 : Int32))) (wG3 : Value) (wO4 : Sta Z Z.heap "jdk/internal/util/Preconditions" "SIOOBE_FORMATTER" "Ljava/util/function/BiFunction;" wG3) (wrG3 : wG3.isRef = true) (hstr : ∀ a ∈ Bundle.stringAtoms, a.before a0 Z = true) (hEL : EW Z a0 consts_1) (h0 : Heap) (n0 : Nat) (X00 : Old Z n0 h0) (o1 : Addr) (a1 : Addr) (t : Addr) (k : ClassId) (q : Int32) (c0 : Int32) (c1 : Int32) (c2 : Int32) (f0 : Fld Z h0 o1 "com/example/fieldwright/fieldwright/FieldStructure" "subfields" "Ljava/lang/String;" (.ref a1)) (f1 : Exa Z h0 a1 "java/lang/String") (f2 : Fld Z h0 a1 "java/lang/String" "value" "[B" (.ref t)) (f3 : Fld Z h0 a1 "java/lang/String" "coder" "B" (.int (0 : Int32))) (f4 : Arv Z h0 t k .byte (3 : Int32) ((([c0, c1, c2] : List Int32).map (fun c => c.toInt8.toInt32)).map Value.int) (.int (0 : Int32))) (hq : ¬ q < 0 ∧ ¬ (255 : Int32) < q) (hc0 : ¬ c0 < 0 ∧ ¬ (255 : Int32) < c0) (hc1 : ¬ c1 < 0 ∧ ¬ (255 : Int32) < c1) (hc2 : ¬ c2 < 0 ∧ ¬ (255 : Int32) < c2) :
    MetFree l (⟨"com/example/fieldwright/fieldwright/FieldStructure", "allows", "(C)Z"⟩ : MethodName) (head1 (Jvm.Cond.code (⟨"com/example/fieldwright/fieldwright/FieldStructure", "allows", "(C)Z"⟩ : MethodName) prog_18_method_6_code 2 (some .boolean) :: ws) ({ frames := 4, cells := 0, slots := 0, locals := 59 } : Room)) (fun a U => a = #[(.ref o1), (.int q)] ∧ Z.Warmed39 U.vm ∧ U.heap = h0) (fun _ _ _ _ _ => True) (fun _ U o U' => ∃ v L, o = .returned v ∧ Q_alw3 Z o1 a1 t k q c0 c1 c2 h0 n0 v U'.heap L ∧ FrameEnd U o U' L ({ frames := 4, cells := 0, slots := 0, locals := 59 } : Room).cells ({ frames := 4, cells := 0, slots := 0, locals := 59 } : Room).slots) := by
  refine MetFree.of_bodySF (plainFor_of_name pn_85196114) hisR ?_
  intro p e s m args below meth c s₁ Bd hml0 hP hK
  obtain ⟨rfl, hZ, hh⟩ := hP
  have hx := Bd.exec
  have hby := Bd.bytes
  have hlk := Bd.notSynchronized
  have hml : c.maxLocals = 2 := hml0
  have hown : s.vm.findClass "com/example/fieldwright/fieldwright/FieldStructure" = some m.cls := findClass_of_methodNamed Bd.named
  have hnm := (name_of_methodNamed Bd.named Bd.method).1
  have X0 : Stand p l e ({ frames := 4, cells := 0, slots := 0, locals := 59 } : Room) s m #[(.ref o1), (.int q)] below meth c s₁ [] 0 0 := Stand.of_body Bd
  have e0 : s₁.heap = h0 := by rw [← hh, Bd.state]; rfl
  have N0 := Fr.nil n0
  have Z0 : n0 ≤ h0.size := X00.1 ▸ X00.2.1
  have K0 : Keep h0 h0 ([] : List Addr) := Keep.refl _ _
  show OwnGoes p e below (fun o U' => ∃ v L, o = .returned v ∧ Q_alw3 Z o1 a1 t k q c0 c1 c2 h0 n0 v U'.heap L ∧ FrameEnd s o U' L ({ frames := 4, cells := 0, slots := 0, locals := 59 } : Room).cells ({ frames := 4, cells := 0, slots := 0, locals := 59 } : Room).slots) s₁ (entryFrame m #[(.ref o1), (.int q)] 2)
  refine OwnGoes.step (T' := s₁) (g' := (mkF m 0 #[.val (.ref o1), .val (.int q)] [])) (fun tgt kgo => castTop (ef_alw3 m o1 q) kgo) ?_
  refine OwnGoes.step (T' := s₁) (g' := (mkF m 1 #[.val (.ref o1), .val (.int q)] [(.ref o1)])) (fun tgt kgo => ?_) ?_
  · show Steps p.tables e below (s₁.setTop (mkF m 0 #[.val (.ref o1), .val (.int q)] [])) tgt
    refine XS.aloadN X0.here hx rfl (hb hby dd_prog_18_method_6_0) rfl rfl ?_
    exact kgo
  obtain ⟨T1, X1, e1, st1⟩ := getF X0 hx hZ hown (host := "") (Or.inl (hw _ (List.mem_of_getElem? (i := 74) rfl))) Via.refl e0 f0 (g := (mkF m 1 #[.val (.ref o1), .val (.int q)] [(.ref o1)])) rfl rfl (hb hby dd_prog_18_method_6_1)
  refine OwnGoes.step (T' := T1) (g' := (mkF m 4 #[.val (.ref o1), .val (.int q)] [(.ref a1)])) st1 ?_
  refine OwnGoes.step (T' := T1) (g' := (mkF m 5 #[.val (.ref o1), .val (.int q)] [(.int q), (.ref a1)])) (fun tgt kgo => ?_) ?_
  · show Steps p.tables e below (T1.setTop (mkF m 4 #[.val (.ref o1), .val (.int q)] [(.ref a1)])) tgt
    refine XS.iloadN X1.here hx rfl (hb hby dd_prog_18_method_6_4) rfl ?_
    exact kgo
  obtain ⟨cq2, kq2, q2a, q2b, q2c⟩ := isOf (s := s) hZ e1 f1
  obtain ⟨_, _, ⟨T2, L2, k2, n2⟩, -, X2, ⟨Lc2, hQ2, l2, y2, z2⟩, st2⟩ := X1.virtualBack hx (y := (⟨"java/lang/String", "indexOf", "(I)I"⟩ : MethodName)) (z := (⟨"java/lang/String", "indexOf", "(I)I"⟩ : MethodName)) hown (mvT hZ (hw _ (List.mem_of_getElem? (i := 83) rfl))) (mvT hZ (hw _ (List.mem_of_getElem? (i := 84) rfl))) (notFace_of_selects (args := #[]) (mvT hZ (hw _ (List.mem_of_getElem? (i := 86) rfl)))) (mvT hZ (hw _ (List.mem_of_getElem? (i := 86) rfl))) (mvT hZ (hw _ (List.mem_of_getElem? (i := 85) rfl))) (by decide) (backOf (W := 0) (rm_io1_3 l Z a0 hw [] wG1 wO2 wP5 wG3 wO4 wrG3 hstr hEL h0 n0 X00 a1 t k q c0 c1 c2 f1 f2 f3 f4 hq hc0 hc1 hc2) hZ (hw _ (List.mem_of_getElem? (i := 87) rfl)) (hw _ (List.mem_of_getElem? (i := 6) rfl)) (by decide) (by decide)) q2a q2c (g := (mkF m 5 #[.val (.ref o1), .val (.int q)] [(.int q), (.ref a1)])) rfl (by rw [hml]; rfl) (Steps.refl _) (argsL := [(.int q)]) (rest := []) (lenOf pd_92649053 rfl) rfl (by show 2 * 0 + _ ≤ _; exact Nat.le_of_eq rfl) (hb hby dd_prog_18_method_6_5) (fun _ _ => ⟨rfl, e1, (by decide : 0 + 0 ≤ _), (by decide : 0 + 0 ≤ _)⟩)
  dsimp only [Pt.U, Pt.locs, Pt.cells, Pt.slots] at X2 l2 y2 z2 st2 hQ2
  subst l2 y2 z2
  obtain ⟨r_2, rfl, Nq2, eq2, pq2_0⟩ := hQ2
  refine OwnGoes.tr (T' := T2) (g' := (mkF m 8 #[.val (.ref o1), .val (.int q)] [(.int r_2)])) st2 ?_
  have N2 := Fr.app N0 Nq2
  by_cases cc3 : r_2 < (0 : Int32)
  · skip
    refine OwnGoes.step (T' := T2) (g' := (mkF m 16 #[.val (.ref o1), .val (.int q)] [(.int (0 : Int32))])) (fun tgt kgo => ?_) ?_
    · show Steps p.tables e below (T2.setTop (mkF m 8 #[.val (.ref o1), .val (.int q)] [(.int r_2)])) tgt
      refine XS.ifYes X2.here hx rfl (pc0 := 8) (pc' := 15) rfl (hb hby dd_prog_18_method_6_8) rfl ((if0 _ _).trans (tlt cc3).1) (by decide) (by decide) ?_
      show Steps p.tables e below (T2.setTop (mkF m 15 #[.val (.ref o1), .val (.int q)] [])) tgt
      refine XS.iconst X2.here hx rfl (hb hby dd_prog_18_method_6_15) ?_
      exact kgo
    refine own_leave X2 hlk (v := some (.int (0 : Int32))) (fun h => by rw [Bd.returns] at h; cases h) (fun fs hr => retN X2 hx (t := .boolean) Bd.returns (by simp) (hb hby dd_prog_18_method_6_16) (by rw [(by decide : nar .boolean (0 : Int32) = (0 : Int32))]; exact hr)) (by decide) (by decide) ?_
    show Q_alw3 Z o1 a1 t k q c0 c1 c2 h0 n0 _ T2.heap _
    rw [eq2]
    exact ⟨(0 : Int32), rfl, N2, rfl, (Or.inr ⟨(pq2_0.resolve_left fun z => z.2 cc3).1, rfl⟩)⟩
  · skip
    refine OwnGoes.step (T' := T2) (g' := (mkF m 16 #[.val (.ref o1), .val (.int q)] [(.int (1 : Int32))])) (fun tgt kgo => ?_) ?_
    · show Steps p.tables e below (T2.setTop (mkF m 8 #[.val (.ref o1), .val (.int q)] [(.int r_2)])) tgt
      refine XS.ifNo X2.here hx rfl (hb hby dd_prog_18_method_6_8) rfl ((if0 _ _).trans (flt cc3).1) ?_
      show Steps p.tables e below (T2.setTop (mkF m 11 #[.val (.ref o1), .val (.int q)] [])) tgt
      refine XS.iconst X2.here hx rfl (hb hby dd_prog_18_method_6_11) ?_
      show Steps p.tables e below (T2.setTop (mkF m 12 #[.val (.ref o1), .val (.int q)] [(.int (1 : Int32))])) tgt
      refine XS.goto X2.here hx rfl (pc0 := 12) (pc' := 16) rfl (hb hby dd_prog_18_method_6_12) (by decide) (by decide) ?_
      exact kgo
    refine own_leave X2 hlk (v := some (.int (1 : Int32))) (fun h => by rw [Bd.returns] at h; cases h) (fun fs hr => retN X2 hx (t := .boolean) Bd.returns (by simp) (hb hby dd_prog_18_method_6_16) (by rw [(by decide : nar .boolean (1 : Int32) = (1 : Int32))]; exact hr)) (by decide) (by decide) ?_
    show Q_alw3 Z o1 a1 t k q c0 c1 c2 h0 n0 _ T2.heap _
    rw [eq2]
    exact ⟨(1 : Int32), rfl, N2, rfl, (Or.inl ⟨(pq2_0.resolve_right fun z => cc3 z.2).1, rfl⟩)⟩
theorem ef_rec (m : MethodId) (x0 : Addr) : entryFrame m #[(.ref x0)] 1 = mkF m 0 #[.val (.ref x0)] [] := by first | (simp [entryFrame, mkF, argsToLocals, Value.category]; done) | rfl
def Q_rec (Z : State) (a1 : Addr) (h0 : Heap) (n0 : Nat) (v : Option Value) (h : Heap) (L : List Loc) : Prop := v = none ∧ Fr n0 L ∧ h = h0
theorem pn_28199424 : plainName "java/lang/Record" = true := by first | (simp [plainName, overriddenIn]; done) | decide +kernel
theorem dd_jdk_30_method_1_0 : decode jdk_30_method_1_code 0 = .ok (.aload_n 0, 1) := by decide +kernel
theorem dd_jdk_30_method_1_1 : decode jdk_30_method_1_code 1 = .ok (.invokespecial 1, 3) := by decide +kernel
theorem dd_jdk_30_method_1_4 : decode jdk_30_method_1_code 4 = .ok (.return_, 1) := by decide +kernel
set_option maxRecDepth 65536 in
set_option maxHeartbeats 40000000 in
theorem rm_rec (l : Launch) (Z : State) (a0 : Array Value) (hw : ∀ d ∈ tables_1, d.before a0 Z = true) (ws : List Jvm.Cond) (wG1 : Int32) (wO2 : Sta Z Z.heap "java/lang/String" "COMPACT_STRINGS" "Z" (.int wG1)) (wP5 : ¬ (wG1 = (0 : Int32))) (wG3 : Value) (wO4 : Sta Z Z.heap "jdk/internal/util/Preconditions" "SIOOBE_FORMATTER" "Ljava/util/function/BiFunction;" wG3) (wrG3 : wG3.isRef = true) (hstr : ∀ a ∈ Bundle.stringAtoms, a.before a0 Z = true) (hEL : EW Z a0 consts_1) (h0 : Heap) (n0 : Nat) (X00 : Old Z n0 h0) (a1 : Addr) :
    MetFree l (⟨"java/lang/Record", "<init>", "()V"⟩ : MethodName) (head1 (Jvm.Cond.code (⟨"java/lang/Record", "<init>", "()V"⟩ : MethodName) jdk_30_method_1_code 1 none :: ws) ({ frames := 1, cells := 0, slots := 0, locals := 12 } : Room)) (fun a U => a = #[(.ref a1)] ∧ Z.Warmed39 U.vm ∧ U.heap = h0) (fun _ _ _ _ _ => True) (fun _ U o U' => ∃ v L, o = .returned v ∧ Q_rec Z a1 h0 n0 v U'.heap L ∧ FrameEnd U o U' L ({ frames := 1, cells := 0, slots := 0, locals := 12 } : Room).cells ({ frames := 1, cells := 0, slots := 0, locals := 12 } : Room).slots) := by
  refine MetFree.of_bodySF (plainFor_of_name pn_28199424) hisR ?_
  intro p e s m args below meth c s₁ Bd hml0 hP hK
  obtain ⟨rfl, hZ, hh⟩ := hP
  have hx := Bd.exec
  have hby := Bd.bytes
  have hlk := Bd.notSynchronized
  have hml : c.maxLocals = 1 := hml0
  have hown : s.vm.findClass "java/lang/Record" = some m.cls := findClass_of_methodNamed Bd.named
  have hnm := (name_of_methodNamed Bd.named Bd.method).1
  have X0 : Stand p l e ({ frames := 1, cells := 0, slots := 0, locals := 12 } : Room) s m #[(.ref a1)] below meth c s₁ [] 0 0 := Stand.of_body Bd
  have e0 : s₁.heap = h0 := by rw [← hh, Bd.state]; rfl
  have N0 := Fr.nil n0
  have Z0 : n0 ≤ h0.size := X00.1 ▸ X00.2.1
  have K0 : Keep h0 h0 ([] : List Addr) := Keep.refl _ _
  show OwnGoes p e below (fun o U' => ∃ v L, o = .returned v ∧ Q_rec Z a1 h0 n0 v U'.heap L ∧ FrameEnd s o U' L ({ frames := 1, cells := 0, slots := 0, locals := 12 } : Room).cells ({ frames := 1, cells := 0, slots := 0, locals := 12 } : Room).slots) s₁ (entryFrame m #[(.ref a1)] 1)
  refine OwnGoes.step (T' := s₁) (g' := (mkF m 0 #[.val (.ref a1)] [])) (fun tgt kgo => castTop (ef_rec m a1) kgo) ?_
  refine OwnGoes.step (T' := s₁) (g' := (mkF m 1 #[.val (.ref a1)] [(.ref a1)])) (fun tgt kgo => ?_) ?_
  · show Steps p.tables e below (s₁.setTop (mkF m 0 #[.val (.ref a1)] [])) tgt
    refine XS.aloadN X0.here hx rfl (hb hby dd_jdk_30_method_1_0) rfl rfl ?_
    exact kgo
  obtain ⟨T1, X1, e1, st1⟩ := initO X0 hx hZ hown (hw _ (List.mem_of_getElem? (i := 65) rfl)) (hw _ (List.mem_of_getElem? (i := 16) rfl)) (hw _ (List.mem_of_getElem? (i := 17) rfl)) e0 (g := (mkF m 1 #[.val (.ref a1)] [(.ref a1)])) rfl (by rw [hml]; rfl) rfl (hb hby dd_jdk_30_method_1_1) (by decide) (W := 0) (by show 2 * 0 + _ ≤ _; exact Nat.le_of_eq rfl) (by decide)
  refine OwnGoes.step (T' := T1) (g' := (mkF m 4 #[.val (.ref a1)] [])) st1 ?_
  refine own_leave X1 hlk (v := none) (fun _ => rfl) (fun fs hr => X1.returnOut hx Bd.returns (hb hby dd_jdk_30_method_1_4) hr) (by decide) (by decide) ?_
  show Q_rec Z a1 h0 n0 _ T1.heap _
  rw [e1]
  exact ⟨rfl, N0, rfl⟩
theorem ef_fini (m : MethodId) (x0 : Addr) (x1 : Addr) (x2 : Addr) (x3 : Addr) (x4 : Addr) (x5 : Addr) (x6 : Addr) : entryFrame m #[(.ref x0), (.ref x1), (.ref x2), (.ref x3), (.ref x4), (.ref x5), (.ref x6)] 7 = mkF m 0 #[.val (.ref x0), .val (.ref x1), .val (.ref x2), .val (.ref x3), .val (.ref x4), .val (.ref x5), .val (.ref x6)] [] := by first | (simp [entryFrame, mkF, argsToLocals, Value.category]; done) | rfl
def Q_fini (Z : State) (o1 : Addr) (s0 : Addr) (s1 : Addr) (s2 : Addr) (s3 : Addr) (s4 : Addr) (s5 : Addr) (h0 : Heap) (n0 : Nat) (v : Option Value) (h : Heap) (L : List Loc) : Prop := v = none ∧ Fr n0 L ∧ Keep h0 h ([o1] : List Addr) ∧ Exa Z h o1 "com/example/fieldwright/fieldwright/FieldStructure" ∧ Fld Z h o1 "com/example/fieldwright/fieldwright/FieldStructure" "subfields" "Ljava/lang/String;" (.ref s4)
theorem dd_prog_18_method_1_0 : decode prog_18_method_1_code 0 = .ok (.aload_n 0, 1) := by decide +kernel
theorem dd_prog_18_method_1_1 : decode prog_18_method_1_code 1 = .ok (.invokespecial 1, 3) := by decide +kernel
theorem pd_57008992 : parseMethodDescriptor "()V" = some ⟨[], none⟩ := by decide +kernel
theorem dd_prog_18_method_1_4 : decode prog_18_method_1_code 4 = .ok (.aload_n 0, 1) := by decide +kernel
theorem dd_prog_18_method_1_5 : decode prog_18_method_1_code 5 = .ok (.aload_n 1, 1) := by decide +kernel
theorem dd_prog_18_method_1_6 : decode prog_18_method_1_code 6 = .ok (.putfield 7, 3) := by decide +kernel
theorem dd_prog_18_method_1_9 : decode prog_18_method_1_code 9 = .ok (.aload_n 0, 1) := by decide +kernel
theorem dd_prog_18_method_1_10 : decode prog_18_method_1_code 10 = .ok (.aload_n 2, 1) := by decide +kernel
theorem dd_prog_18_method_1_11 : decode prog_18_method_1_code 11 = .ok (.putfield 13, 3) := by decide +kernel
theorem dd_prog_18_method_1_14 : decode prog_18_method_1_code 14 = .ok (.aload_n 0, 1) := by decide +kernel
theorem dd_prog_18_method_1_15 : decode prog_18_method_1_code 15 = .ok (.aload_n 3, 1) := by decide +kernel
theorem dd_prog_18_method_1_16 : decode prog_18_method_1_code 16 = .ok (.putfield 16, 3) := by decide +kernel
theorem dd_prog_18_method_1_19 : decode prog_18_method_1_code 19 = .ok (.aload_n 0, 1) := by decide +kernel
theorem dd_prog_18_method_1_20 : decode prog_18_method_1_code 20 = .ok (.aload 4, 2) := by decide +kernel
theorem dd_prog_18_method_1_22 : decode prog_18_method_1_code 22 = .ok (.putfield 19, 3) := by decide +kernel
theorem dd_prog_18_method_1_25 : decode prog_18_method_1_code 25 = .ok (.aload_n 0, 1) := by decide +kernel
theorem dd_prog_18_method_1_26 : decode prog_18_method_1_code 26 = .ok (.aload 5, 2) := by decide +kernel
theorem dd_prog_18_method_1_28 : decode prog_18_method_1_code 28 = .ok (.putfield 22, 3) := by decide +kernel
theorem dd_prog_18_method_1_31 : decode prog_18_method_1_code 31 = .ok (.aload_n 0, 1) := by decide +kernel
theorem dd_prog_18_method_1_32 : decode prog_18_method_1_code 32 = .ok (.aload 6, 2) := by decide +kernel
theorem dd_prog_18_method_1_34 : decode prog_18_method_1_code 34 = .ok (.putfield 25, 3) := by decide +kernel
theorem dd_prog_18_method_1_37 : decode prog_18_method_1_code 37 = .ok (.return_, 1) := by decide +kernel
set_option maxRecDepth 65536 in
set_option maxHeartbeats 40000000 in
theorem rm_fini (l : Launch) (Z : State) (a0 : Array Value) (hw : ∀ d ∈ tables_1, d.before a0 Z = true) (ws : List Jvm.Cond) (wG1 : Int32) (wO2 : Sta Z Z.heap "java/lang/String" "COMPACT_STRINGS" "Z" (.int wG1)) (wP5 : ¬ (wG1 = (0 : Int32))) (wG3 : Value) (wO4 : Sta Z Z.heap "jdk/internal/util/Preconditions" "SIOOBE_FORMATTER" "Ljava/util/function/BiFunction;" wG3) (wrG3 : wG3.isRef = true) (hstr : ∀ a ∈ Bundle.stringAtoms, a.before a0 Z = true) (hEL : EW Z a0 consts_1) (h0 : Heap) (n0 : Nat) (X00 : Old Z n0 h0) (o1 : Addr) (s0 : Addr) (s1 : Addr) (s2 : Addr) (s3 : Addr) (s4 : Addr) (s5 : Addr) (f0 : Exa Z h0 o1 "com/example/fieldwright/fieldwright/FieldStructure") (f1 : Fld Z h0 o1 "com/example/fieldwright/fieldwright/FieldStructure" "tag" "Ljava/lang/String;" .null) (f2 : Fld Z h0 o1 "com/example/fieldwright/fieldwright/FieldStructure" "indicator1" "Ljava/lang/String;" .null) (f3 : Fld Z h0 o1 "com/example/fieldwright/fieldwright/FieldStructure" "indicator2" "Ljava/lang/String;" .null) (f4 : Fld Z h0 o1 "com/example/fieldwright/fieldwright/FieldStructure" "indicatorRule" "Ljava/lang/String;" .null) (f5 : Fld Z h0 o1 "com/example/fieldwright/fieldwright/FieldStructure" "subfields" "Ljava/lang/String;" .null) (f6 : Fld Z h0 o1 "com/example/fieldwright/fieldwright/FieldStructure" "repeatable" "Ljava/lang/String;" .null) (f7 : n0 ≤ o1) :
    MetFree l (⟨"com/example/fieldwright/fieldwright/FieldStructure", "<init>", "(Ljava/lang/String;Ljava/lang/String;Ljava/lang/String;Ljava/lang/String;Ljava/lang/String;Ljava/lang/String;)V"⟩ : MethodName) (head1 (Jvm.Cond.code (⟨"com/example/fieldwright/fieldwright/FieldStructure", "<init>", "(Ljava/lang/String;Ljava/lang/String;Ljava/lang/String;Ljava/lang/String;Ljava/lang/String;Ljava/lang/String;)V"⟩ : MethodName) prog_18_method_1_code 7 none :: ws) ({ frames := 2, cells := 0, slots := 0, locals := 24 } : Room)) (fun a U => a = #[(.ref o1), (.ref s0), (.ref s1), (.ref s2), (.ref s3), (.ref s4), (.ref s5)] ∧ Z.Warmed39 U.vm ∧ U.heap = h0) (fun _ _ _ _ _ => True) (fun _ U o U' => ∃ v L, o = .returned v ∧ Q_fini Z o1 s0 s1 s2 s3 s4 s5 h0 n0 v U'.heap L ∧ FrameEnd U o U' L ({ frames := 2, cells := 0, slots := 0, locals := 24 } : Room).cells ({ frames := 2, cells := 0, slots := 0, locals := 24 } : Room).slots) := by
  refine MetFree.of_bodySF (plainFor_of_name pn_85196114) hisR ?_
  intro p e s m args below meth c s₁ Bd hml0 hP hK
  obtain ⟨rfl, hZ, hh⟩ := hP
  have hx := Bd.exec
  have hby := Bd.bytes
  have hlk := Bd.notSynchronized
  have hml : c.maxLocals = 7 := hml0
  have hown : s.vm.findClass "com/example/fieldwright/fieldwright/FieldStructure" = some m.cls := findClass_of_methodNamed Bd.named
  have hnm := (name_of_methodNamed Bd.named Bd.method).1
  have X0 : Stand p l e ({ frames := 2, cells := 0, slots := 0, locals := 24 } : Room) s m #[(.ref o1), (.ref s0), (.ref s1), (.ref s2), (.ref s3), (.ref s4), (.ref s5)] below meth c s₁ [] 0 0 := Stand.of_body Bd
  have e0 : s₁.heap = h0 := by rw [← hh, Bd.state]; rfl
  have N0 := Fr.nil n0
  have Z0 : n0 ≤ h0.size := X00.1 ▸ X00.2.1
  have K0 : Keep h0 h0 ([o1] : List Addr) := Keep.refl _ _
  show OwnGoes p e below (fun o U' => ∃ v L, o = .returned v ∧ Q_fini Z o1 s0 s1 s2 s3 s4 s5 h0 n0 v U'.heap L ∧ FrameEnd s o U' L ({ frames := 2, cells := 0, slots := 0, locals := 24 } : Room).cells ({ frames := 2, cells := 0, slots := 0, locals := 24 } : Room).slots) s₁ (entryFrame m #[(.ref o1), (.ref s0), (.ref s1), (.ref s2), (.ref s3), (.ref s4), (.ref s5)] 7)
  refine OwnGoes.step (T' := s₁) (g' := (mkF m 0 #[.val (.ref o1), .val (.ref s0), .val (.ref s1), .val (.ref s2), .val (.ref s3), .val (.ref s4), .val (.ref s5)] [])) (fun tgt kgo => castTop (ef_fini m o1 s0 s1 s2 s3 s4 s5) kgo) ?_
  refine OwnGoes.step (T' := s₁) (g' := (mkF m 1 #[.val (.ref o1), .val (.ref s0), .val (.ref s1), .val (.ref s2), .val (.ref s3), .val (.ref s4), .val (.ref s5)] [(.ref o1)])) (fun tgt kgo => ?_) ?_
  · show Steps p.tables e below (s₁.setTop (mkF m 0 #[.val (.ref o1), .val (.ref s0), .val (.ref s1), .val (.ref s2), .val (.ref s3), .val (.ref s4), .val (.ref s5)] [])) tgt
    refine XS.aloadN X0.here hx rfl (hb hby dd_prog_18_method_1_0) rfl rfl ?_
    exact kgo
  obtain ⟨_, _, ⟨T1, L1, k1, n1⟩, -, X1, ⟨Lc1, hQ1, l1, y1, z1⟩, st1⟩ := X0.specialBack hx (y := (⟨"java/lang/Record", "<init>", "()V"⟩ : MethodName)) rfl hown (mvT hZ (hw _ (List.mem_of_getElem? (i := 60) rfl))) (mvT hZ (hw _ (List.mem_of_getElem? (i := 61) rfl))) (mvT hZ (hw _ (List.mem_of_getElem? (i := 64) rfl))) (by decide) (backOf (W := 0) (rm_rec l Z a0 hw [] wG1 wO2 wP5 wG3 wO4 wrG3 hstr hEL h0 n0 X00 o1) hZ (hw _ (List.mem_of_getElem? (i := 64) rfl)) (hw _ (List.mem_of_getElem? (i := 63) rfl)) (by decide) (by decide)) (g := (mkF m 1 #[.val (.ref o1), .val (.ref s0), .val (.ref s1), .val (.ref s2), .val (.ref s3), .val (.ref s4), .val (.ref s5)] [(.ref o1)])) rfl (by rw [hml]; rfl) (Steps.refl _) (a := o1) (argsL := []) (rest := []) (lenOf pd_57008992 rfl) rfl (by show 2 * 0 + _ ≤ _; exact Nat.le_of_eq rfl) (hb hby dd_prog_18_method_1_1) (fun _ _ => ⟨rfl, e0, (by decide : 0 + 0 ≤ _), (by decide : 0 + 0 ≤ _)⟩)
  dsimp only [Pt.U, Pt.locs, Pt.cells, Pt.slots] at X1 l1 y1 z1 st1 hQ1
  subst l1 y1 z1
  obtain ⟨rfl, Nq1, eq1⟩ := hQ1
  refine OwnGoes.tr (T' := T1) (g' := (mkF m 4 #[.val (.ref o1), .val (.ref s0), .val (.ref s1), .val (.ref s2), .val (.ref s3), .val (.ref s4), .val (.ref s5)] [])) st1 ?_
  have N1 := Fr.app N0 Nq1
  refine OwnGoes.step (T' := T1) (g' := (mkF m 6 #[.val (.ref o1), .val (.ref s0), .val (.ref s1), .val (.ref s2), .val (.ref s3), .val (.ref s4), .val (.ref s5)] [(.ref s0), (.ref o1)])) (fun tgt kgo => ?_) ?_
  · show Steps p.tables e below (T1.setTop (mkF m 4 #[.val (.ref o1), .val (.ref s0), .val (.ref s1), .val (.ref s2), .val (.ref s3), .val (.ref s4), .val (.ref s5)] [])) tgt
    refine XS.aloadN X1.here hx rfl (hb hby dd_prog_18_method_1_4) rfl rfl ?_
    show Steps p.tables e below (T1.setTop (mkF m 5 #[.val (.ref o1), .val (.ref s0), .val (.ref s1), .val (.ref s2), .val (.ref s3), .val (.ref s4), .val (.ref s5)] [(.ref o1)])) tgt
    refine XS.aloadN X1.here hx rfl (hb hby dd_prog_18_method_1_5) rfl rfl ?_
    exact kgo
  obtain ⟨T2, h2, X2, e2, W2, st2⟩ := putF X1 hx hZ hown (host := "") (Or.inl (hw _ (List.mem_of_getElem? (i := 66) rfl))) Via.refl eq1 f1 f0 (Or.inr ⟨(hw _ (List.mem_of_getElem? (i := 67) rfl)), rfl, hnm⟩) (hw _ (List.mem_of_getElem? (i := 49) rfl)) (ty := (.object "java/lang/String")) (by decide) rfl rfl (g := (mkF m 6 #[.val (.ref o1), .val (.ref s0), .val (.ref s1), .val (.ref s2), .val (.ref s3), .val (.ref s4), .val (.ref s5)] [(.ref s0), (.ref o1)])) rfl rfl (hb hby dd_prog_18_method_1_6)
  refine OwnGoes.step (T' := T2) (g' := (mkF m 9 #[.val (.ref o1), .val (.ref s0), .val (.ref s1), .val (.ref s2), .val (.ref s3), .val (.ref s4), .val (.ref s5)] [])) st2 ?_
  have Fw2 := f1.same W2
  have F2_1 := f0.wr W2
  have F2_2 := f2.other W2 (Or.inr (slot_ne (Or.inr (hw _ (List.mem_of_getElem? (i := 69) rfl))) (Or.inr (hw _ (List.mem_of_getElem? (i := 67) rfl))) (by decide) (t := (.object "java/lang/String")) (t' := (.object "java/lang/String")) (by decide) (by decide)))
  have F2_3 := f3.other W2 (Or.inr (slot_ne (Or.inr (hw _ (List.mem_of_getElem? (i := 71) rfl))) (Or.inr (hw _ (List.mem_of_getElem? (i := 67) rfl))) (by decide) (t := (.object "java/lang/String")) (t' := (.object "java/lang/String")) (by decide) (by decide)))
  have F2_4 := f4.other W2 (Or.inr (slot_ne (Or.inr (hw _ (List.mem_of_getElem? (i := 73) rfl))) (Or.inr (hw _ (List.mem_of_getElem? (i := 67) rfl))) (by decide) (t := (.object "java/lang/String")) (t' := (.object "java/lang/String")) (by decide) (by decide)))
  have F2_5 := f5.other W2 (Or.inr (slot_ne (Or.inr (hw _ (List.mem_of_getElem? (i := 75) rfl))) (Or.inr (hw _ (List.mem_of_getElem? (i := 67) rfl))) (by decide) (t := (.object "java/lang/String")) (t' := (.object "java/lang/String")) (by decide) (by decide)))
  have F2_6 := f6.other W2 (Or.inr (slot_ne (Or.inr (hw _ (List.mem_of_getElem? (i := 77) rfl))) (Or.inr (hw _ (List.mem_of_getElem? (i := 67) rfl))) (by decide) (t := (.object "java/lang/String")) (t' := (.object "java/lang/String")) (by decide) (by decide)))
  have Ol2 := X00.wr W2 f7
  have K2 : Keep h0 h2 ([o1] : List Addr) := K0.wr W2 (Or.inl (List.mem_of_getElem? (i := 0) rfl))
  have N2 := Fr.snoc X2 N1 f7
  refine OwnGoes.step (T' := T2) (g' := (mkF m 11 #[.val (.ref o1), .val (.ref s0), .val (.ref s1), .val (.ref s2), .val (.ref s3), .val (.ref s4), .val (.ref s5)] [(.ref s1), (.ref o1)])) (fun tgt kgo => ?_) ?_
  · show Steps p.tables e below (T2.setTop (mkF m 9 #[.val (.ref o1), .val (.ref s0), .val (.ref s1), .val (.ref s2), .val (.ref s3), .val (.ref s4), .val (.ref s5)] [])) tgt
    refine XS.aloadN X2.here hx rfl (hb hby dd_prog_18_method_1_9) rfl rfl ?_
    show Steps p.tables e below (T2.setTop (mkF m 10 #[.val (.ref o1), .val (.ref s0), .val (.ref s1), .val (.ref s2), .val (.ref s3), .val (.ref s4), .val (.ref s5)] [(.ref o1)])) tgt
    refine XS.aloadN X2.here hx rfl (hb hby dd_prog_18_method_1_10) rfl rfl ?_
    exact kgo
  obtain ⟨T3, h3, X3, e3, W3, st3⟩ := putF X2 hx hZ hown (host := "") (Or.inl (hw _ (List.mem_of_getElem? (i := 68) rfl))) Via.refl e2 F2_2 F2_1 (Or.inr ⟨(hw _ (List.mem_of_getElem? (i := 69) rfl)), rfl, hnm⟩) (hw _ (List.mem_of_getElem? (i := 49) rfl)) (ty := (.object "java/lang/String")) (by decide) rfl rfl (g := (mkF m 11 #[.val (.ref o1), .val (.ref s0), .val (.ref s1), .val (.ref s2), .val (.ref s3), .val (.ref s4), .val (.ref s5)] [(.ref s1), (.ref o1)])) rfl rfl (hb hby dd_prog_18_method_1_11)
  refine OwnGoes.step (T' := T3) (g' := (mkF m 14 #[.val (.ref o1), .val (.ref s0), .val (.ref s1), .val (.ref s2), .val (.ref s3), .val (.ref s4), .val (.ref s5)] [])) st3 ?_
  have Fw3 := F2_2.same W3
  have F3_7 := F2_1.wr W3
  have F3_8 := Fw2.other W3 (Or.inr (slot_ne (Or.inr (hw _ (List.mem_of_getElem? (i := 67) rfl))) (Or.inr (hw _ (List.mem_of_getElem? (i := 69) rfl))) (by decide) (t := (.object "java/lang/String")) (t' := (.object "java/lang/String")) (by decide) (by decide)))
  have F3_9 := F2_3.other W3 (Or.inr (slot_ne (Or.inr (hw _ (List.mem_of_getElem? (i := 71) rfl))) (Or.inr (hw _ (List.mem_of_getElem? (i := 69) rfl))) (by decide) (t := (.object "java/lang/String")) (t' := (.object "java/lang/String")) (by decide) (by decide)))
  have F3_10 := F2_4.other W3 (Or.inr (slot_ne (Or.inr (hw _ (List.mem_of_getElem? (i := 73) rfl))) (Or.inr (hw _ (List.mem_of_getElem? (i := 69) rfl))) (by decide) (t := (.object "java/lang/String")) (t' := (.object "java/lang/String")) (by decide) (by decide)))
  have F3_11 := F2_5.other W3 (Or.inr (slot_ne (Or.inr (hw _ (List.mem_of_getElem? (i := 75) rfl))) (Or.inr (hw _ (List.mem_of_getElem? (i := 69) rfl))) (by decide) (t := (.object "java/lang/String")) (t' := (.object "java/lang/String")) (by decide) (by decide)))
  have F3_12 := F2_6.other W3 (Or.inr (slot_ne (Or.inr (hw _ (List.mem_of_getElem? (i := 77) rfl))) (Or.inr (hw _ (List.mem_of_getElem? (i := 69) rfl))) (by decide) (t := (.object "java/lang/String")) (t' := (.object "java/lang/String")) (by decide) (by decide)))
  have Ol3 := Ol2.wr W3 f7
  have K3 : Keep h0 h3 ([o1] : List Addr) := K2.wr W3 (Or.inl (List.mem_of_getElem? (i := 0) rfl))
  have N3 := Fr.snoc X3 N2 f7
  refine OwnGoes.step (T' := T3) (g' := (mkF m 16 #[.val (.ref o1), .val (.ref s0), .val (.ref s1), .val (.ref s2), .val (.ref s3), .val (.ref s4), .val (.ref s5)] [(.ref s2), (.ref o1)])) (fun tgt kgo => ?_) ?_
  · show Steps p.tables e below (T3.setTop (mkF m 14 #[.val (.ref o1), .val (.ref s0), .val (.ref s1), .val (.ref s2), .val (.ref s3), .val (.ref s4), .val (.ref s5)] [])) tgt
    refine XS.aloadN X3.here hx rfl (hb hby dd_prog_18_method_1_14) rfl rfl ?_
    show Steps p.tables e below (T3.setTop (mkF m 15 #[.val (.ref o1), .val (.ref s0), .val (.ref s1), .val (.ref s2), .val (.ref s3), .val (.ref s4), .val (.ref s5)] [(.ref o1)])) tgt
    refine XS.aloadN X3.here hx rfl (hb hby dd_prog_18_method_1_15) rfl rfl ?_
    exact kgo
  obtain ⟨T4, h4, X4, e4, W4, st4⟩ := putF X3 hx hZ hown (host := "") (Or.inl (hw _ (List.mem_of_getElem? (i := 70) rfl))) Via.refl e3 F3_9 F3_7 (Or.inr ⟨(hw _ (List.mem_of_getElem? (i := 71) rfl)), rfl, hnm⟩) (hw _ (List.mem_of_getElem? (i := 49) rfl)) (ty := (.object "java/lang/String")) (by decide) rfl rfl (g := (mkF m 16 #[.val (.ref o1), .val (.ref s0), .val (.ref s1), .val (.ref s2), .val (.ref s3), .val (.ref s4), .val (.ref s5)] [(.ref s2), (.ref o1)])) rfl rfl (hb hby dd_prog_18_method_1_16)
  refine OwnGoes.step (T' := T4) (g' := (mkF m 19 #[.val (.ref o1), .val (.ref s0), .val (.ref s1), .val (.ref s2), .val (.ref s3), .val (.ref s4), .val (.ref s5)] [])) st4 ?_
  have Fw4 := F3_9.same W4
  have F4_13 := F3_7.wr W4
  have F4_14 := F3_8.other W4 (Or.inr (slot_ne (Or.inr (hw _ (List.mem_of_getElem? (i := 67) rfl))) (Or.inr (hw _ (List.mem_of_getElem? (i := 71) rfl))) (by decide) (t := (.object "java/lang/String")) (t' := (.object "java/lang/String")) (by decide) (by decide)))
  have F4_15 := Fw3.other W4 (Or.inr (slot_ne (Or.inr (hw _ (List.mem_of_getElem? (i := 69) rfl))) (Or.inr (hw _ (List.mem_of_getElem? (i := 71) rfl))) (by decide) (t := (.object "java/lang/String")) (t' := (.object "java/lang/String")) (by decide) (by decide)))
  have F4_16 := F3_10.other W4 (Or.inr (slot_ne (Or.inr (hw _ (List.mem_of_getElem? (i := 73) rfl))) (Or.inr (hw _ (List.mem_of_getElem? (i := 71) rfl))) (by decide) (t := (.object "java/lang/String")) (t' := (.object "java/lang/String")) (by decide) (by decide)))
  have F4_17 := F3_11.other W4 (Or.inr (slot_ne (Or.inr (hw _ (List.mem_of_getElem? (i := 75) rfl))) (Or.inr (hw _ (List.mem_of_getElem? (i := 71) rfl))) (by decide) (t := (.object "java/lang/String")) (t' := (.object "java/lang/String")) (by decide) (by decide)))
  have F4_18 := F3_12.other W4 (Or.inr (slot_ne (Or.inr (hw _ (List.mem_of_getElem? (i := 77) rfl))) (Or.inr (hw _ (List.mem_of_getElem? (i := 71) rfl))) (by decide) (t := (.object "java/lang/String")) (t' := (.object "java/lang/String")) (by decide) (by decide)))
  have Ol4 := Ol3.wr W4 f7
  have K4 : Keep h0 h4 ([o1] : List Addr) := K3.wr W4 (Or.inl (List.mem_of_getElem? (i := 0) rfl))
  have N4 := Fr.snoc X4 N3 f7
  refine OwnGoes.step (T' := T4) (g' := (mkF m 22 #[.val (.ref o1), .val (.ref s0), .val (.ref s1), .val (.ref s2), .val (.ref s3), .val (.ref s4), .val (.ref s5)] [(.ref s3), (.ref o1)])) (fun tgt kgo => ?_) ?_
  · show Steps p.tables e below (T4.setTop (mkF m 19 #[.val (.ref o1), .val (.ref s0), .val (.ref s1), .val (.ref s2), .val (.ref s3), .val (.ref s4), .val (.ref s5)] [])) tgt
    refine XS.aloadN X4.here hx rfl (hb hby dd_prog_18_method_1_19) rfl rfl ?_
    show Steps p.tables e below (T4.setTop (mkF m 20 #[.val (.ref o1), .val (.ref s0), .val (.ref s1), .val (.ref s2), .val (.ref s3), .val (.ref s4), .val (.ref s5)] [(.ref o1)])) tgt
    refine XS.aload X4.here hx rfl (hb hby dd_prog_18_method_1_20) rfl rfl ?_
    exact kgo
  obtain ⟨T5, h5, X5, e5, W5, st5⟩ := putF X4 hx hZ hown (host := "") (Or.inl (hw _ (List.mem_of_getElem? (i := 72) rfl))) Via.refl e4 F4_16 F4_13 (Or.inr ⟨(hw _ (List.mem_of_getElem? (i := 73) rfl)), rfl, hnm⟩) (hw _ (List.mem_of_getElem? (i := 49) rfl)) (ty := (.object "java/lang/String")) (by decide) rfl rfl (g := (mkF m 22 #[.val (.ref o1), .val (.ref s0), .val (.ref s1), .val (.ref s2), .val (.ref s3), .val (.ref s4), .val (.ref s5)] [(.ref s3), (.ref o1)])) rfl rfl (hb hby dd_prog_18_method_1_22)
  refine OwnGoes.step (T' := T5) (g' := (mkF m 25 #[.val (.ref o1), .val (.ref s0), .val (.ref s1), .val (.ref s2), .val (.ref s3), .val (.ref s4), .val (.ref s5)] [])) st5 ?_
  have Fw5 := F4_16.same W5
  have F5_19 := F4_13.wr W5
  have F5_20 := F4_14.other W5 (Or.inr (slot_ne (Or.inr (hw _ (List.mem_of_getElem? (i := 67) rfl))) (Or.inr (hw _ (List.mem_of_getElem? (i := 73) rfl))) (by decide) (t := (.object "java/lang/String")) (t' := (.object "java/lang/String")) (by decide) (by decide)))
  have F5_21 := F4_15.other W5 (Or.inr (slot_ne (Or.inr (hw _ (List.mem_of_getElem? (i := 69) rfl))) (Or.inr (hw _ (List.mem_of_getElem? (i := 73) rfl))) (by decide) (t := (.object "java/lang/String")) (t' := (.object "java/lang/String")) (by decide) (by decide)))
  have F5_22 := Fw4.other W5 (Or.inr (slot_ne (Or.inr (hw _ (List.mem_of_getElem? (i := 71) rfl))) (Or.inr (hw _ (List.mem_of_getElem? (i := 73) rfl))) (by decide) (t := (.object "java/lang/String")) (t' := (.object "java/lang/String")) (by decide) (by decide)))
  have F5_23 := F4_17.other W5 (Or.inr (slot_ne (Or.inr (hw _ (List.mem_of_getElem? (i := 75) rfl))) (Or.inr (hw _ (List.mem_of_getElem? (i := 73) rfl))) (by decide) (t := (.object "java/lang/String")) (t' := (.object "java/lang/String")) (by decide) (by decide)))
  have F5_24 := F4_18.other W5 (Or.inr (slot_ne (Or.inr (hw _ (List.mem_of_getElem? (i := 77) rfl))) (Or.inr (hw _ (List.mem_of_getElem? (i := 73) rfl))) (by decide) (t := (.object "java/lang/String")) (t' := (.object "java/lang/String")) (by decide) (by decide)))
  have Ol5 := Ol4.wr W5 f7
  have K5 : Keep h0 h5 ([o1] : List Addr) := K4.wr W5 (Or.inl (List.mem_of_getElem? (i := 0) rfl))
  have N5 := Fr.snoc X5 N4 f7
  refine OwnGoes.step (T' := T5) (g' := (mkF m 28 #[.val (.ref o1), .val (.ref s0), .val (.ref s1), .val (.ref s2), .val (.ref s3), .val (.ref s4), .val (.ref s5)] [(.ref s4), (.ref o1)])) (fun tgt kgo => ?_) ?_
  · show Steps p.tables e below (T5.setTop (mkF m 25 #[.val (.ref o1), .val (.ref s0), .val (.ref s1), .val (.ref s2), .val (.ref s3), .val (.ref s4), .val (.ref s5)] [])) tgt
    refine XS.aloadN X5.here hx rfl (hb hby dd_prog_18_method_1_25) rfl rfl ?_
    show Steps p.tables e below (T5.setTop (mkF m 26 #[.val (.ref o1), .val (.ref s0), .val (.ref s1), .val (.ref s2), .val (.ref s3), .val (.ref s4), .val (.ref s5)] [(.ref o1)])) tgt
    refine XS.aload X5.here hx rfl (hb hby dd_prog_18_method_1_26) rfl rfl ?_
    exact kgo
  obtain ⟨T6, h6, X6, e6, W6, st6⟩ := putF X5 hx hZ hown (host := "") (Or.inl (hw _ (List.mem_of_getElem? (i := 74) rfl))) Via.refl e5 F5_23 F5_19 (Or.inr ⟨(hw _ (List.mem_of_getElem? (i := 75) rfl)), rfl, hnm⟩) (hw _ (List.mem_of_getElem? (i := 49) rfl)) (ty := (.object "java/lang/String")) (by decide) rfl rfl (g := (mkF m 28 #[.val (.ref o1), .val (.ref s0), .val (.ref s1), .val (.ref s2), .val (.ref s3), .val (.ref s4), .val (.ref s5)] [(.ref s4), (.ref o1)])) rfl rfl (hb hby dd_prog_18_method_1_28)
  refine OwnGoes.step (T' := T6) (g' := (mkF m 31 #[.val (.ref o1), .val (.ref s0), .val (.ref s1), .val (.ref s2), .val (.ref s3), .val (.ref s4), .val (.ref s5)] [])) st6 ?_
  have Fw6 := F5_23.same W6
  have F6_25 := F5_19.wr W6
  have F6_26 := F5_20.other W6 (Or.inr (slot_ne (Or.inr (hw _ (List.mem_of_getElem? (i := 67) rfl))) (Or.inr (hw _ (List.mem_of_getElem? (i := 75) rfl))) (by decide) (t := (.object "java/lang/String")) (t' := (.object "java/lang/String")) (by decide) (by decide)))
  have F6_27 := F5_21.other W6 (Or.inr (slot_ne (Or.inr (hw _ (List.mem_of_getElem? (i := 69) rfl))) (Or.inr (hw _ (List.mem_of_getElem? (i := 75) rfl))) (by decide) (t := (.object "java/lang/String")) (t' := (.object "java/lang/String")) (by decide) (by decide)))
  have F6_28 := F5_22.other W6 (Or.inr (slot_ne (Or.inr (hw _ (List.mem_of_getElem? (i := 71) rfl))) (Or.inr (hw _ (List.mem_of_getElem? (i := 75) rfl))) (by decide) (t := (.object "java/lang/String")) (t' := (.object "java/lang/String")) (by decide) (by decide)))
  have F6_29 := Fw5.other W6 (Or.inr (slot_ne (Or.inr (hw _ (List.mem_of_getElem? (i := 73) rfl))) (Or.inr (hw _ (List.mem_of_getElem? (i := 75) rfl))) (by decide) (t := (.object "java/lang/String")) (t' := (.object "java/lang/String")) (by decide) (by decide)))
  have F6_30 := F5_24.other W6 (Or.inr (slot_ne (Or.inr (hw _ (List.mem_of_getElem? (i := 77) rfl))) (Or.inr (hw _ (List.mem_of_getElem? (i := 75) rfl))) (by decide) (t := (.object "java/lang/String")) (t' := (.object "java/lang/String")) (by decide) (by decide)))
  have Ol6 := Ol5.wr W6 f7
  have K6 : Keep h0 h6 ([o1] : List Addr) := K5.wr W6 (Or.inl (List.mem_of_getElem? (i := 0) rfl))
  have N6 := Fr.snoc X6 N5 f7
  refine OwnGoes.step (T' := T6) (g' := (mkF m 34 #[.val (.ref o1), .val (.ref s0), .val (.ref s1), .val (.ref s2), .val (.ref s3), .val (.ref s4), .val (.ref s5)] [(.ref s5), (.ref o1)])) (fun tgt kgo => ?_) ?_
  · show Steps p.tables e below (T6.setTop (mkF m 31 #[.val (.ref o1), .val (.ref s0), .val (.ref s1), .val (.ref s2), .val (.ref s3), .val (.ref s4), .val (.ref s5)] [])) tgt
    refine XS.aloadN X6.here hx rfl (hb hby dd_prog_18_method_1_31) rfl rfl ?_
    show Steps p.tables e below (T6.setTop (mkF m 32 #[.val (.ref o1), .val (.ref s0), .val (.ref s1), .val (.ref s2), .val (.ref s3), .val (.ref s4), .val (.ref s5)] [(.ref o1)])) tgt
    refine XS.aload X6.here hx rfl (hb hby dd_prog_18_method_1_32) rfl rfl ?_
    exact kgo
  obtain ⟨T7, h7, X7, e7, W7, st7⟩ := putF X6 hx hZ hown (host := "") (Or.inl (hw _ (List.mem_of_getElem? (i := 76) rfl))) Via.refl e6 F6_30 F6_25 (Or.inr ⟨(hw _ (List.mem_of_getElem? (i := 77) rfl)), rfl, hnm⟩) (hw _ (List.mem_of_getElem? (i := 49) rfl)) (ty := (.object "java/lang/String")) (by decide) rfl rfl (g := (mkF m 34 #[.val (.ref o1), .val (.ref s0), .val (.ref s1), .val (.ref s2), .val (.ref s3), .val (.ref s4), .val (.ref s5)] [(.ref s5), (.ref o1)])) rfl rfl (hb hby dd_prog_18_method_1_34)
  refine OwnGoes.step (T' := T7) (g' := (mkF m 37 #[.val (.ref o1), .val (.ref s0), .val (.ref s1), .val (.ref s2), .val (.ref s3), .val (.ref s4), .val (.ref s5)] [])) st7 ?_
  have Fw7 := F6_30.same W7
  have F7_31 := F6_25.wr W7
  have F7_32 := F6_26.other W7 (Or.inr (slot_ne (Or.inr (hw _ (List.mem_of_getElem? (i := 67) rfl))) (Or.inr (hw _ (List.mem_of_getElem? (i := 77) rfl))) (by decide) (t := (.object "java/lang/String")) (t' := (.object "java/lang/String")) (by decide) (by decide)))
  have F7_33 := F6_27.other W7 (Or.inr (slot_ne (Or.inr (hw _ (List.mem_of_getElem? (i := 69) rfl))) (Or.inr (hw _ (List.mem_of_getElem? (i := 77) rfl))) (by decide) (t := (.object "java/lang/String")) (t' := (.object "java/lang/String")) (by decide) (by decide)))
  have F7_34 := F6_28.other W7 (Or.inr (slot_ne (Or.inr (hw _ (List.mem_of_getElem? (i := 71) rfl))) (Or.inr (hw _ (List.mem_of_getElem? (i := 77) rfl))) (by decide) (t := (.object "java/lang/String")) (t' := (.object "java/lang/String")) (by decide) (by decide)))
  have F7_35 := F6_29.other W7 (Or.inr (slot_ne (Or.inr (hw _ (List.mem_of_getElem? (i := 73) rfl))) (Or.inr (hw _ (List.mem_of_getElem? (i := 77) rfl))) (by decide) (t := (.object "java/lang/String")) (t' := (.object "java/lang/String")) (by decide) (by decide)))
  have F7_36 := Fw6.other W7 (Or.inr (slot_ne (Or.inr (hw _ (List.mem_of_getElem? (i := 75) rfl))) (Or.inr (hw _ (List.mem_of_getElem? (i := 77) rfl))) (by decide) (t := (.object "java/lang/String")) (t' := (.object "java/lang/String")) (by decide) (by decide)))
  have Ol7 := Ol6.wr W7 f7
  have K7 : Keep h0 h7 ([o1] : List Addr) := K6.wr W7 (Or.inl (List.mem_of_getElem? (i := 0) rfl))
  have N7 := Fr.snoc X7 N6 f7
  refine own_leave X7 hlk (v := none) (fun _ => rfl) (fun fs hr => X7.returnOut hx Bd.returns (hb hby dd_prog_18_method_1_37) hr) (by decide) (by decide) ?_
  show Q_fini Z o1 s0 s1 s2 s3 s4 s5 h0 n0 _ T7.heap _
  rw [e7]
  exact ⟨rfl, N7, K7, F7_31, F7_36⟩
theorem ef_law (m : MethodId) (x0 : Int32) (x1 : Int32) : entryFrame m #[(.int x0), (.int x1)] maxLocals = mkF m 0 #[.val (.int x0), .val (.int x1), .unset, .unset, .unset, .unset, .unset, .unset, .unset, .unset, .unset, .unset, .unset] [] := by first | (simp [entryFrame, mkF, argsToLocals, Value.category, maxLocals]; done) | rfl
def Q_law (Z : State) (p1 : Int32) (p2 : Int32) (h0 : Heap) (n0 : Nat) (v : Option Value) (h : Heap) (L : List Loc) : Prop := v = some (.int (1 : Int32)) ∧ Fr n0 L
theorem pd_31847132 : parseMethodDescriptor "(ICCC)Ljava/lang/String;" = some ⟨[.int, .char, .char, .char], some (.object "java/lang/String")⟩ := by decide +kernel
theorem pd_44149578 : parseMethodDescriptor "(C)Ljava/lang/String;" = some ⟨[.char], some (.object "java/lang/String")⟩ := by decide +kernel
theorem pd_60881529 : parseMethodDescriptor "(Ljava/lang/String;Ljava/lang/String;Ljava/lang/String;Ljava/lang/String;Ljava/lang/String;Ljava/lang/String;)V" = some ⟨[(.object "java/lang/String"), (.object "java/lang/String"), (.object "java/lang/String"), (.object "java/lang/String"), (.object "java/lang/String"), (.object "java/lang/String")], none⟩ := by decide +kernel
set_option maxRecDepth 65536 in
set_option maxHeartbeats 40000000 in
theorem rm_law (l : Launch) (Z : State) (a0 : Array Value) (hw : ∀ d ∈ tables_1, d.before a0 Z = true) (ws : List Jvm.Cond) (wG1 : Int32) (wO2 : Sta Z Z.heap "java/lang/String" "COMPACT_STRINGS" "Z" (.int wG1)) (wP5 : ¬ (wG1 = (0 : Int32))) (wG3 : Value) (wO4 : Sta Z Z.heap "jdk/internal/util/Preconditions" "SIOOBE_FORMATTER" "Ljava/util/function/BiFunction;" wG3) (wrG3 : wG3.isRef = true) (hstr : ∀ a ∈ Bundle.stringAtoms, a.before a0 Z = true) (hEL : EW Z a0 consts_1) (h0 : Heap) (n0 : Nat) (X00 : Old Z n0 h0) (p1 : Int32) (p2 : Int32) :
    MetFree l x (head1 (Jvm.Cond.code x code maxLocals ret :: ws) room_1) (fun a U => a = #[(.int p1), (.int p2)] ∧ Z.Warmed39 U.vm ∧ U.heap = h0 ∧ CHv Z consts_1 U.vm h0) (fun _ _ _ _ _ => True) (fun _ U o U' => ∃ v L, o = .returned v ∧ Q_law Z p1 p2 h0 n0 v U'.heap L ∧ CHr Z consts_1 U.vm U.heap U'.vm U'.heap ∧ ReturnedEndW U o U' L room_1.cells room_1.slots) := by
  refine MetFree.of_bodySF (plainFor_of_name pn_40884587) hisR ?_
  intro p e s m args below meth c s₁ Bd hml0 hP hK
  obtain ⟨rfl, hZ, hh, hH⟩ := hP
  have hx := Bd.exec
  have hby := Bd.bytes
  have hlk := Bd.notSynchronized
  have hml : c.maxLocals = 13 := hml0
  have hown : s.vm.findClass "com/example/fieldwright/fieldwright/FieldStructureAllowsPinLaw" = some m.cls := findClass_of_methodNamed Bd.named
  have hnm := (name_of_methodNamed Bd.named Bd.method).1
  have X0 : Stand p l e room_1 (s.setVm s.vm) m #[(.int p1), (.int p2)] below meth c s₁ [] 0 0 := Stand.of_body Bd
  have e0 : s₁.heap = h0 := by rw [← hh, Bd.state]; rfl
  have N0 := Fr.nil n0
  have Z0 : n0 ≤ h0.size := X00.1 ▸ X00.2.1
  have K0 : Keep h0 h0 ([] : List Addr) := Keep.refl _ _
  have R0 : CHr Z consts_1 s.vm h0 s.vm h0 := CHr.refl hH
  have hS0 : s.Since s.vm h0.size := State.WarmedH.since (State.WarmedH.refl s) _
  have hk0 : h0.size ≤ h0.size := Nat.le_refl _
  show OwnGoes p e below (fun o U' => ∃ v L, o = .returned v ∧ Q_law Z p1 p2 h0 n0 v U'.heap L ∧ CHr Z consts_1 s.vm s.heap U'.vm U'.heap ∧ ReturnedEndW s o U' L room_1.cells room_1.slots) s₁ (entryFrame m #[(.int p1), (.int p2)] maxLocals)
  refine OwnGoes.step (T' := s₁) (g' := (mkF m 0 #[.val (.int p1), .val (.int p2), .unset, .unset, .unset, .unset, .unset, .unset, .unset, .unset, .unset, .unset, .unset] [])) (fun tgt kgo => castTop (ef_law m p1 p2) kgo) ?_
  refine OwnGoes.step (T' := s₁) (g' := (mkF m 16 #[.val (.int p1), .val (.int p2), .val (.int (p2 &&& (3 : Int32))), .val (.int (((p2.toUInt32 >>> ((2 : Int32) &&& 31).toUInt32).toInt32) &&& (3 : Int32))), .unset, .unset, .unset, .unset, .unset, .unset, .unset, .unset, .unset] [(.int (nar .char (p1 &&& (255 : Int32))))])) (fun tgt kgo => ?_) ?_
  · show Steps p.tables e below (s₁.setTop (mkF m 0 #[.val (.int p1), .val (.int p2), .unset, .unset, .unset, .unset, .unset, .unset, .unset, .unset, .unset, .unset, .unset] [])) tgt
    refine XS.iloadN X0.here hx rfl (hb hby at_0) rfl ?_
    show Steps p.tables e below (s₁.setTop (mkF m 1 #[.val (.int p1), .val (.int p2), .unset, .unset, .unset, .unset, .unset, .unset, .unset, .unset, .unset, .unset, .unset] [(.int p2)])) tgt
    refine XS.iconst X0.here hx rfl (hb hby at_1) ?_
    show Steps p.tables e below (s₁.setTop (mkF m 2 #[.val (.int p1), .val (.int p2), .unset, .unset, .unset, .unset, .unset, .unset, .unset, .unset, .unset, .unset, .unset] [(.int (3 : Int32)), (.int p2)])) tgt
    refine XS.iand X0.here hx rfl (hb hby at_2) rfl ?_
    show Steps p.tables e below (s₁.setTop (mkF m 3 #[.val (.int p1), .val (.int p2), .unset, .unset, .unset, .unset, .unset, .unset, .unset, .unset, .unset, .unset, .unset] [(.int (p2 &&& (3 : Int32)))])) tgt
    refine XS.istoreN X0.here hx rfl (hb hby at_3) rfl (l' := #[.val (.int p1), .val (.int p2), .val (.int (p2 &&& (3 : Int32))), .unset, .unset, .unset, .unset, .unset, .unset, .unset, .unset, .unset, .unset]) rfl ?_
    show Steps p.tables e below (s₁.setTop (mkF m 4 #[.val (.int p1), .val (.int p2), .val (.int (p2 &&& (3 : Int32))), .unset, .unset, .unset, .unset, .unset, .unset, .unset, .unset, .unset, .unset] [])) tgt
    refine XS.iloadN X0.here hx rfl (hb hby at_4) rfl ?_
    show Steps p.tables e below (s₁.setTop (mkF m 5 #[.val (.int p1), .val (.int p2), .val (.int (p2 &&& (3 : Int32))), .unset, .unset, .unset, .unset, .unset, .unset, .unset, .unset, .unset, .unset] [(.int p2)])) tgt
    refine XS.iconst X0.here hx rfl (hb hby at_5) ?_
    show Steps p.tables e below (s₁.setTop (mkF m 6 #[.val (.int p1), .val (.int p2), .val (.int (p2 &&& (3 : Int32))), .unset, .unset, .unset, .unset, .unset, .unset, .unset, .unset, .unset, .unset] [(.int (2 : Int32)), (.int p2)])) tgt
    refine XS.iushr X0.here hx rfl (hb hby at_6) rfl ?_
    show Steps p.tables e below (s₁.setTop (mkF m 7 #[.val (.int p1), .val (.int p2), .val (.int (p2 &&& (3 : Int32))), .unset, .unset, .unset, .unset, .unset, .unset, .unset, .unset, .unset, .unset] [(.int ((p2.toUInt32 >>> ((2 : Int32) &&& 31).toUInt32).toInt32))])) tgt
    refine XS.iconst X0.here hx rfl (hb hby at_7) ?_
    show Steps p.tables e below (s₁.setTop (mkF m 8 #[.val (.int p1), .val (.int p2), .val (.int (p2 &&& (3 : Int32))), .unset, .unset, .unset, .unset, .unset, .unset, .unset, .unset, .unset, .unset] [(.int (3 : Int32)), (.int ((p2.toUInt32 >>> ((2 : Int32) &&& 31).toUInt32).toInt32))])) tgt
    refine XS.iand X0.here hx rfl (hb hby at_8) rfl ?_
    show Steps p.tables e below (s₁.setTop (mkF m 9 #[.val (.int p1), .val (.int p2), .val (.int (p2 &&& (3 : Int32))), .unset, .unset, .unset, .unset, .unset, .unset, .unset, .unset, .unset, .unset] [(.int (((p2.toUInt32 >>> ((2 : Int32) &&& 31).toUInt32).toInt32) &&& (3 : Int32)))])) tgt
    refine XS.istoreN X0.here hx rfl (hb hby at_9) rfl (l' := #[.val (.int p1), .val (.int p2), .val (.int (p2 &&& (3 : Int32))), .val (.int (((p2.toUInt32 >>> ((2 : Int32) &&& 31).toUInt32).toInt32) &&& (3 : Int32))), .unset, .unset, .unset, .unset, .unset, .unset, .unset, .unset, .unset]) rfl ?_
    show Steps p.tables e below (s₁.setTop (mkF m 10 #[.val (.int p1), .val (.int p2), .val (.int (p2 &&& (3 : Int32))), .val (.int (((p2.toUInt32 >>> ((2 : Int32) &&& 31).toUInt32).toInt32) &&& (3 : Int32))), .unset, .unset, .unset, .unset, .unset, .unset, .unset, .unset, .unset] [])) tgt
    refine XS.iloadN X0.here hx rfl (hb hby at_10) rfl ?_
    show Steps p.tables e below (s₁.setTop (mkF m 11 #[.val (.int p1), .val (.int p2), .val (.int (p2 &&& (3 : Int32))), .val (.int (((p2.toUInt32 >>> ((2 : Int32) &&& 31).toUInt32).toInt32) &&& (3 : Int32))), .unset, .unset, .unset, .unset, .unset, .unset, .unset, .unset, .unset] [(.int p1)])) tgt
    refine XS.sipush X0.here hx rfl (hb hby at_11) ?_
    show Steps p.tables e below (s₁.setTop (mkF m 14 #[.val (.int p1), .val (.int p2), .val (.int (p2 &&& (3 : Int32))), .val (.int (((p2.toUInt32 >>> ((2 : Int32) &&& 31).toUInt32).toInt32) &&& (3 : Int32))), .unset, .unset, .unset, .unset, .unset, .unset, .unset, .unset, .unset] [(.int (255 : Int32)), (.int p1)])) tgt
    refine XS.iand X0.here hx rfl (hb hby at_14) rfl ?_
    show Steps p.tables e below (s₁.setTop (mkF m 15 #[.val (.int p1), .val (.int p2), .val (.int (p2 &&& (3 : Int32))), .val (.int (((p2.toUInt32 >>> ((2 : Int32) &&& 31).toUInt32).toInt32) &&& (3 : Int32))), .unset, .unset, .unset, .unset, .unset, .unset, .unset, .unset, .unset] [(.int (p1 &&& (255 : Int32)))])) tgt
    refine XS.i2c X0.here hx rfl (hb hby at_15) rfl ?_
    exact kgo
  obtain ⟨c0, hc0⟩ : ∃ z : Int32, (nar .char (p1 &&& (255 : Int32))) = z := ⟨_, rfl⟩
  refine OwnGoes.step (T' := s₁) (g' := (mkF m 16 #[.val (.int p1), .val (.int p2), .val (.int (p2 &&& (3 : Int32))), .val (.int (((p2.toUInt32 >>> ((2 : Int32) &&& 31).toUInt32).toInt32) &&& (3 : Int32))), .unset, .unset, .unset, .unset, .unset, .unset, .unset, .unset, .unset] [(.int c0)])) (fun tgt kgo => castTop (by rw [hc0]) kgo) ?_
  have hl_c0 : ¬ c0 < 0 ∧ ¬ (255 : Int32) < c0 := hc0 ▸ (own_lat255 p1)
  refine OwnGoes.step (T' := s₁) (g' := (mkF m 27 #[.val (.int p1), .val (.int p2), .val (.int (p2 &&& (3 : Int32))), .val (.int (((p2.toUInt32 >>> ((2 : Int32) &&& 31).toUInt32).toInt32) &&& (3 : Int32))), .val (.int c0), .unset, .unset, .unset, .unset, .unset, .unset, .unset, .unset] [(.int (nar .char (((p1.toUInt32 >>> ((8 : Int32) &&& 31).toUInt32).toInt32) &&& (255 : Int32))))])) (fun tgt kgo => ?_) ?_
  · show Steps p.tables e below (s₁.setTop (mkF m 16 #[.val (.int p1), .val (.int p2), .val (.int (p2 &&& (3 : Int32))), .val (.int (((p2.toUInt32 >>> ((2 : Int32) &&& 31).toUInt32).toInt32) &&& (3 : Int32))), .unset, .unset, .unset, .unset, .unset, .unset, .unset, .unset, .unset] [(.int c0)])) tgt
    refine XS.istore X0.here hx rfl (hb hby at_16) rfl (l' := #[.val (.int p1), .val (.int p2), .val (.int (p2 &&& (3 : Int32))), .val (.int (((p2.toUInt32 >>> ((2 : Int32) &&& 31).toUInt32).toInt32) &&& (3 : Int32))), .val (.int c0), .unset, .unset, .unset, .unset, .unset, .unset, .unset, .unset]) rfl ?_
    show Steps p.tables e below (s₁.setTop (mkF m 18 #[.val (.int p1), .val (.int p2), .val (.int (p2 &&& (3 : Int32))), .val (.int (((p2.toUInt32 >>> ((2 : Int32) &&& 31).toUInt32).toInt32) &&& (3 : Int32))), .val (.int c0), .unset, .unset, .unset, .unset, .unset, .unset, .unset, .unset] [])) tgt
    refine XS.iloadN X0.here hx rfl (hb hby at_18) rfl ?_
    show Steps p.tables e below (s₁.setTop (mkF m 19 #[.val (.int p1), .val (.int p2), .val (.int (p2 &&& (3 : Int32))), .val (.int (((p2.toUInt32 >>> ((2 : Int32) &&& 31).toUInt32).toInt32) &&& (3 : Int32))), .val (.int c0), .unset, .unset, .unset, .unset, .unset, .unset, .unset, .unset] [(.int p1)])) tgt
    refine XS.bipush X0.here hx rfl (hb hby at_19) ?_
    show Steps p.tables e below (s₁.setTop (mkF m 21 #[.val (.int p1), .val (.int p2), .val (.int (p2 &&& (3 : Int32))), .val (.int (((p2.toUInt32 >>> ((2 : Int32) &&& 31).toUInt32).toInt32) &&& (3 : Int32))), .val (.int c0), .unset, .unset, .unset, .unset, .unset, .unset, .unset, .unset] [(.int (8 : Int32)), (.int p1)])) tgt
    refine XS.iushr X0.here hx rfl (hb hby at_21) rfl ?_
    show Steps p.tables e below (s₁.setTop (mkF m 22 #[.val (.int p1), .val (.int p2), .val (.int (p2 &&& (3 : Int32))), .val (.int (((p2.toUInt32 >>> ((2 : Int32) &&& 31).toUInt32).toInt32) &&& (3 : Int32))), .val (.int c0), .unset, .unset, .unset, .unset, .unset, .unset, .unset, .unset] [(.int ((p1.toUInt32 >>> ((8 : Int32) &&& 31).toUInt32).toInt32))])) tgt
    refine XS.sipush X0.here hx rfl (hb hby at_22) ?_
    show Steps p.tables e below (s₁.setTop (mkF m 25 #[.val (.int p1), .val (.int p2), .val (.int (p2 &&& (3 : Int32))), .val (.int (((p2.toUInt32 >>> ((2 : Int32) &&& 31).toUInt32).toInt32) &&& (3 : Int32))), .val (.int c0), .unset, .unset, .unset, .unset, .unset, .unset, .unset, .unset] [(.int (255 : Int32)), (.int ((p1.toUInt32 >>> ((8 : Int32) &&& 31).toUInt32).toInt32))])) tgt
    refine XS.iand X0.here hx rfl (hb hby at_25) rfl ?_
    show Steps p.tables e below (s₁.setTop (mkF m 26 #[.val (.int p1), .val (.int p2), .val (.int (p2 &&& (3 : Int32))), .val (.int (((p2.toUInt32 >>> ((2 : Int32) &&& 31).toUInt32).toInt32) &&& (3 : Int32))), .val (.int c0), .unset, .unset, .unset, .unset, .unset, .unset, .unset, .unset] [(.int (((p1.toUInt32 >>> ((8 : Int32) &&& 31).toUInt32).toInt32) &&& (255 : Int32)))])) tgt
    refine XS.i2c X0.here hx rfl (hb hby at_26) rfl ?_
    exact kgo
  obtain ⟨c1, hc1⟩ : ∃ z : Int32, (nar .char (((p1.toUInt32 >>> ((8 : Int32) &&& 31).toUInt32).toInt32) &&& (255 : Int32))) = z := ⟨_, rfl⟩
  refine OwnGoes.step (T' := s₁) (g' := (mkF m 27 #[.val (.int p1), .val (.int p2), .val (.int (p2 &&& (3 : Int32))), .val (.int (((p2.toUInt32 >>> ((2 : Int32) &&& 31).toUInt32).toInt32) &&& (3 : Int32))), .val (.int c0), .unset, .unset, .unset, .unset, .unset, .unset, .unset, .unset] [(.int c1)])) (fun tgt kgo => castTop (by rw [hc1]) kgo) ?_
  have hl_c1 : ¬ c1 < 0 ∧ ¬ (255 : Int32) < c1 := hc1 ▸ (own_lat255 ((p1.toUInt32 >>> ((8 : Int32) &&& 31).toUInt32).toInt32))
  refine OwnGoes.step (T' := s₁) (g' := (mkF m 38 #[.val (.int p1), .val (.int p2), .val (.int (p2 &&& (3 : Int32))), .val (.int (((p2.toUInt32 >>> ((2 : Int32) &&& 31).toUInt32).toInt32) &&& (3 : Int32))), .val (.int c0), .val (.int c1), .unset, .unset, .unset, .unset, .unset, .unset, .unset] [(.int (nar .char (((p1.toUInt32 >>> ((16 : Int32) &&& 31).toUInt32).toInt32) &&& (255 : Int32))))])) (fun tgt kgo => ?_) ?_
  · show Steps p.tables e below (s₁.setTop (mkF m 27 #[.val (.int p1), .val (.int p2), .val (.int (p2 &&& (3 : Int32))), .val (.int (((p2.toUInt32 >>> ((2 : Int32) &&& 31).toUInt32).toInt32) &&& (3 : Int32))), .val (.int c0), .unset, .unset, .unset, .unset, .unset, .unset, .unset, .unset] [(.int c1)])) tgt
    refine XS.istore X0.here hx rfl (hb hby at_27) rfl (l' := #[.val (.int p1), .val (.int p2), .val (.int (p2 &&& (3 : Int32))), .val (.int (((p2.toUInt32 >>> ((2 : Int32) &&& 31).toUInt32).toInt32) &&& (3 : Int32))), .val (.int c0), .val (.int c1), .unset, .unset, .unset, .unset, .unset, .unset, .unset]) rfl ?_
    show Steps p.tables e below (s₁.setTop (mkF m 29 #[.val (.int p1), .val (.int p2), .val (.int (p2 &&& (3 : Int32))), .val (.int (((p2.toUInt32 >>> ((2 : Int32) &&& 31).toUInt32).toInt32) &&& (3 : Int32))), .val (.int c0), .val (.int c1), .unset, .unset, .unset, .unset, .unset, .unset, .unset] [])) tgt
    refine XS.iloadN X0.here hx rfl (hb hby at_29) rfl ?_
    show Steps p.tables e below (s₁.setTop (mkF m 30 #[.val (.int p1), .val (.int p2), .val (.int (p2 &&& (3 : Int32))), .val (.int (((p2.toUInt32 >>> ((2 : Int32) &&& 31).toUInt32).toInt32) &&& (3 : Int32))), .val (.int c0), .val (.int c1), .unset, .unset, .unset, .unset, .unset, .unset, .unset] [(.int p1)])) tgt
    refine XS.bipush X0.here hx rfl (hb hby at_30) ?_
    show Steps p.tables e below (s₁.setTop (mkF m 32 #[.val (.int p1), .val (.int p2), .val (.int (p2 &&& (3 : Int32))), .val (.int (((p2.toUInt32 >>> ((2 : Int32) &&& 31).toUInt32).toInt32) &&& (3 : Int32))), .val (.int c0), .val (.int c1), .unset, .unset, .unset, .unset, .unset, .unset, .unset] [(.int (16 : Int32)), (.int p1)])) tgt
    refine XS.iushr X0.here hx rfl (hb hby at_32) rfl ?_
    show Steps p.tables e below (s₁.setTop (mkF m 33 #[.val (.int p1), .val (.int p2), .val (.int (p2 &&& (3 : Int32))), .val (.int (((p2.toUInt32 >>> ((2 : Int32) &&& 31).toUInt32).toInt32) &&& (3 : Int32))), .val (.int c0), .val (.int c1), .unset, .unset, .unset, .unset, .unset, .unset, .unset] [(.int ((p1.toUInt32 >>> ((16 : Int32) &&& 31).toUInt32).toInt32))])) tgt
    refine XS.sipush X0.here hx rfl (hb hby at_33) ?_
    show Steps p.tables e below (s₁.setTop (mkF m 36 #[.val (.int p1), .val (.int p2), .val (.int (p2 &&& (3 : Int32))), .val (.int (((p2.toUInt32 >>> ((2 : Int32) &&& 31).toUInt32).toInt32) &&& (3 : Int32))), .val (.int c0), .val (.int c1), .unset, .unset, .unset, .unset, .unset, .unset, .unset] [(.int (255 : Int32)), (.int ((p1.toUInt32 >>> ((16 : Int32) &&& 31).toUInt32).toInt32))])) tgt
    refine XS.iand X0.here hx rfl (hb hby at_36) rfl ?_
    show Steps p.tables e below (s₁.setTop (mkF m 37 #[.val (.int p1), .val (.int p2), .val (.int (p2 &&& (3 : Int32))), .val (.int (((p2.toUInt32 >>> ((2 : Int32) &&& 31).toUInt32).toInt32) &&& (3 : Int32))), .val (.int c0), .val (.int c1), .unset, .unset, .unset, .unset, .unset, .unset, .unset] [(.int (((p1.toUInt32 >>> ((16 : Int32) &&& 31).toUInt32).toInt32) &&& (255 : Int32)))])) tgt
    refine XS.i2c X0.here hx rfl (hb hby at_37) rfl ?_
    exact kgo
  obtain ⟨c2, hc2⟩ : ∃ z : Int32, (nar .char (((p1.toUInt32 >>> ((16 : Int32) &&& 31).toUInt32).toInt32) &&& (255 : Int32))) = z := ⟨_, rfl⟩
  refine OwnGoes.step (T' := s₁) (g' := (mkF m 38 #[.val (.int p1), .val (.int p2), .val (.int (p2 &&& (3 : Int32))), .val (.int (((p2.toUInt32 >>> ((2 : Int32) &&& 31).toUInt32).toInt32) &&& (3 : Int32))), .val (.int c0), .val (.int c1), .unset, .unset, .unset, .unset, .unset, .unset, .unset] [(.int c2)])) (fun tgt kgo => castTop (by rw [hc2]) kgo) ?_
  have hl_c2 : ¬ c2 < 0 ∧ ¬ (255 : Int32) < c2 := hc2 ▸ (own_lat255 ((p1.toUInt32 >>> ((16 : Int32) &&& 31).toUInt32).toInt32))
  refine OwnGoes.step (T' := s₁) (g' := (mkF m 49 #[.val (.int p1), .val (.int p2), .val (.int (p2 &&& (3 : Int32))), .val (.int (((p2.toUInt32 >>> ((2 : Int32) &&& 31).toUInt32).toInt32) &&& (3 : Int32))), .val (.int c0), .val (.int c1), .val (.int c2), .unset, .unset, .unset, .unset, .unset, .unset] [(.int (nar .char (((p1.toUInt32 >>> ((24 : Int32) &&& 31).toUInt32).toInt32) &&& (255 : Int32))))])) (fun tgt kgo => ?_) ?_
  · show Steps p.tables e below (s₁.setTop (mkF m 38 #[.val (.int p1), .val (.int p2), .val (.int (p2 &&& (3 : Int32))), .val (.int (((p2.toUInt32 >>> ((2 : Int32) &&& 31).toUInt32).toInt32) &&& (3 : Int32))), .val (.int c0), .val (.int c1), .unset, .unset, .unset, .unset, .unset, .unset, .unset] [(.int c2)])) tgt
    refine XS.istore X0.here hx rfl (hb hby at_38) rfl (l' := #[.val (.int p1), .val (.int p2), .val (.int (p2 &&& (3 : Int32))), .val (.int (((p2.toUInt32 >>> ((2 : Int32) &&& 31).toUInt32).toInt32) &&& (3 : Int32))), .val (.int c0), .val (.int c1), .val (.int c2), .unset, .unset, .unset, .unset, .unset, .unset]) rfl ?_
    show Steps p.tables e below (s₁.setTop (mkF m 40 #[.val (.int p1), .val (.int p2), .val (.int (p2 &&& (3 : Int32))), .val (.int (((p2.toUInt32 >>> ((2 : Int32) &&& 31).toUInt32).toInt32) &&& (3 : Int32))), .val (.int c0), .val (.int c1), .val (.int c2), .unset, .unset, .unset, .unset, .unset, .unset] [])) tgt
    refine XS.iloadN X0.here hx rfl (hb hby at_40) rfl ?_
    show Steps p.tables e below (s₁.setTop (mkF m 41 #[.val (.int p1), .val (.int p2), .val (.int (p2 &&& (3 : Int32))), .val (.int (((p2.toUInt32 >>> ((2 : Int32) &&& 31).toUInt32).toInt32) &&& (3 : Int32))), .val (.int c0), .val (.int c1), .val (.int c2), .unset, .unset, .unset, .unset, .unset, .unset] [(.int p1)])) tgt
    refine XS.bipush X0.here hx rfl (hb hby at_41) ?_
    show Steps p.tables e below (s₁.setTop (mkF m 43 #[.val (.int p1), .val (.int p2), .val (.int (p2 &&& (3 : Int32))), .val (.int (((p2.toUInt32 >>> ((2 : Int32) &&& 31).toUInt32).toInt32) &&& (3 : Int32))), .val (.int c0), .val (.int c1), .val (.int c2), .unset, .unset, .unset, .unset, .unset, .unset] [(.int (24 : Int32)), (.int p1)])) tgt
    refine XS.iushr X0.here hx rfl (hb hby at_43) rfl ?_
    show Steps p.tables e below (s₁.setTop (mkF m 44 #[.val (.int p1), .val (.int p2), .val (.int (p2 &&& (3 : Int32))), .val (.int (((p2.toUInt32 >>> ((2 : Int32) &&& 31).toUInt32).toInt32) &&& (3 : Int32))), .val (.int c0), .val (.int c1), .val (.int c2), .unset, .unset, .unset, .unset, .unset, .unset] [(.int ((p1.toUInt32 >>> ((24 : Int32) &&& 31).toUInt32).toInt32))])) tgt
    refine XS.sipush X0.here hx rfl (hb hby at_44) ?_
    show Steps p.tables e below (s₁.setTop (mkF m 47 #[.val (.int p1), .val (.int p2), .val (.int (p2 &&& (3 : Int32))), .val (.int (((p2.toUInt32 >>> ((2 : Int32) &&& 31).toUInt32).toInt32) &&& (3 : Int32))), .val (.int c0), .val (.int c1), .val (.int c2), .unset, .unset, .unset, .unset, .unset, .unset] [(.int (255 : Int32)), (.int ((p1.toUInt32 >>> ((24 : Int32) &&& 31).toUInt32).toInt32))])) tgt
    refine XS.iand X0.here hx rfl (hb hby at_47) rfl ?_
    show Steps p.tables e below (s₁.setTop (mkF m 48 #[.val (.int p1), .val (.int p2), .val (.int (p2 &&& (3 : Int32))), .val (.int (((p2.toUInt32 >>> ((2 : Int32) &&& 31).toUInt32).toInt32) &&& (3 : Int32))), .val (.int c0), .val (.int c1), .val (.int c2), .unset, .unset, .unset, .unset, .unset, .unset] [(.int (((p1.toUInt32 >>> ((24 : Int32) &&& 31).toUInt32).toInt32) &&& (255 : Int32)))])) tgt
    refine XS.i2c X0.here hx rfl (hb hby at_48) rfl ?_
    exact kgo
  obtain ⟨c3, hc3⟩ : ∃ z : Int32, (nar .char (((p1.toUInt32 >>> ((24 : Int32) &&& 31).toUInt32).toInt32) &&& (255 : Int32))) = z := ⟨_, rfl⟩
  refine OwnGoes.step (T' := s₁) (g' := (mkF m 49 #[.val (.int p1), .val (.int p2), .val (.int (p2 &&& (3 : Int32))), .val (.int (((p2.toUInt32 >>> ((2 : Int32) &&& 31).toUInt32).toInt32) &&& (3 : Int32))), .val (.int c0), .val (.int c1), .val (.int c2), .unset, .unset, .unset, .unset, .unset, .unset] [(.int c3)])) (fun tgt kgo => castTop (by rw [hc3]) kgo) ?_
  have hl_c3 : ¬ c3 < 0 ∧ ¬ (255 : Int32) < c3 := hc3 ▸ (own_lat255 ((p1.toUInt32 >>> ((24 : Int32) &&& 31).toUInt32).toInt32))
  refine OwnGoes.step (T' := s₁) (g' := (mkF m 52 #[.val (.int p1), .val (.int p2), .val (.int (p2 &&& (3 : Int32))), .val (.int (((p2.toUInt32 >>> ((2 : Int32) &&& 31).toUInt32).toInt32) &&& (3 : Int32))), .val (.int c0), .val (.int c1), .val (.int c2), .val (.int c3), .unset, .unset, .unset, .unset, .unset] [(.int (((p2.toUInt32 >>> ((2 : Int32) &&& 31).toUInt32).toInt32) &&& (3 : Int32)))])) (fun tgt kgo => ?_) ?_
  · show Steps p.tables e below (s₁.setTop (mkF m 49 #[.val (.int p1), .val (.int p2), .val (.int (p2 &&& (3 : Int32))), .val (.int (((p2.toUInt32 >>> ((2 : Int32) &&& 31).toUInt32).toInt32) &&& (3 : Int32))), .val (.int c0), .val (.int c1), .val (.int c2), .unset, .unset, .unset, .unset, .unset, .unset] [(.int c3)])) tgt
    refine XS.istore X0.here hx rfl (hb hby at_49) rfl (l' := #[.val (.int p1), .val (.int p2), .val (.int (p2 &&& (3 : Int32))), .val (.int (((p2.toUInt32 >>> ((2 : Int32) &&& 31).toUInt32).toInt32) &&& (3 : Int32))), .val (.int c0), .val (.int c1), .val (.int c2), .val (.int c3), .unset, .unset, .unset, .unset, .unset]) rfl ?_
    show Steps p.tables e below (s₁.setTop (mkF m 51 #[.val (.int p1), .val (.int p2), .val (.int (p2 &&& (3 : Int32))), .val (.int (((p2.toUInt32 >>> ((2 : Int32) &&& 31).toUInt32).toInt32) &&& (3 : Int32))), .val (.int c0), .val (.int c1), .val (.int c2), .val (.int c3), .unset, .unset, .unset, .unset, .unset] [])) tgt
    refine XS.iloadN X0.here hx rfl (hb hby at_51) rfl ?_
    exact kgo
  have hj1 : ∀ (qq : Int32), (¬ qq < 0 ∧ ¬ (255 : Int32) < qq) → OwnGoes p e below (fun o U' => ∃ v L, o = .returned v ∧ Q_law Z p1 p2 h0 n0 v U'.heap L ∧ CHr Z consts_1 s.vm s.heap U'.vm U'.heap ∧ ReturnedEndW s o U' L room_1.cells room_1.slots) s₁ (mkF m 90 #[.val (.int p1), .val (.int p2), .val (.int (p2 &&& (3 : Int32))), .val (.int (((p2.toUInt32 >>> ((2 : Int32) &&& 31).toUInt32).toInt32) &&& (3 : Int32))), .val (.int c0), .val (.int c1), .val (.int c2), .val (.int c3), .val (.int qq), .unset, .unset, .unset, .unset] []) := by
    intro qq hz1
    refine OwnGoes.step (T' := s₁) (g' := (mkF m 97 #[.val (.int p1), .val (.int p2), .val (.int (p2 &&& (3 : Int32))), .val (.int (((p2.toUInt32 >>> ((2 : Int32) &&& 31).toUInt32).toInt32) &&& (3 : Int32))), .val (.int c0), .val (.int c1), .val (.int c2), .val (.int c3), .val (.int qq), .unset, .unset, .unset, .unset] [(.int c2), (.int c1), (.int c0), (.int (p2 &&& (3 : Int32)))])) (fun tgt kgo => ?_) ?_
    · show Steps p.tables e below (s₁.setTop (mkF m 90 #[.val (.int p1), .val (.int p2), .val (.int (p2 &&& (3 : Int32))), .val (.int (((p2.toUInt32 >>> ((2 : Int32) &&& 31).toUInt32).toInt32) &&& (3 : Int32))), .val (.int c0), .val (.int c1), .val (.int c2), .val (.int c3), .val (.int qq), .unset, .unset, .unset, .unset] [])) tgt
      refine XS.iloadN X0.here hx rfl (hb hby at_90) rfl ?_
      show Steps p.tables e below (s₁.setTop (mkF m 91 #[.val (.int p1), .val (.int p2), .val (.int (p2 &&& (3 : Int32))), .val (.int (((p2.toUInt32 >>> ((2 : Int32) &&& 31).toUInt32).toInt32) &&& (3 : Int32))), .val (.int c0), .val (.int c1), .val (.int c2), .val (.int c3), .val (.int qq), .unset, .unset, .unset, .unset] [(.int (p2 &&& (3 : Int32)))])) tgt
      refine XS.iload X0.here hx rfl (hb hby at_91) rfl ?_
      show Steps p.tables e below (s₁.setTop (mkF m 93 #[.val (.int p1), .val (.int p2), .val (.int (p2 &&& (3 : Int32))), .val (.int (((p2.toUInt32 >>> ((2 : Int32) &&& 31).toUInt32).toInt32) &&& (3 : Int32))), .val (.int c0), .val (.int c1), .val (.int c2), .val (.int c3), .val (.int qq), .unset, .unset, .unset, .unset] [(.int c0), (.int (p2 &&& (3 : Int32)))])) tgt
      refine XS.iload X0.here hx rfl (hb hby at_93) rfl ?_
      show Steps p.tables e below (s₁.setTop (mkF m 95 #[.val (.int p1), .val (.int p2), .val (.int (p2 &&& (3 : Int32))), .val (.int (((p2.toUInt32 >>> ((2 : Int32) &&& 31).toUInt32).toInt32) &&& (3 : Int32))), .val (.int c0), .val (.int c1), .val (.int c2), .val (.int c3), .val (.int qq), .unset, .unset, .unset, .unset] [(.int c1), (.int c0), (.int (p2 &&& (3 : Int32)))])) tgt
      refine XS.iload X0.here hx rfl (hb hby at_95) rfl ?_
      exact kgo
    rcases own_and3 p2 with hn3 | hn3 | hn3 | hn3
    · skip
      rw [hn3]
      obtain ⟨_, _, ⟨T2, L2, k2, n2⟩, -, X2, Si2, Gr2, ⟨Lc2, hQ2, l2, y2, z2, Rc2⟩, st2⟩ := callSS X0 hx (y := (⟨"com/example/fieldwright/fieldwright/FieldStructureAllowsPinLaw", "subs", "(ICCC)Ljava/lang/String;"⟩ : MethodName)) hown (mvT hZ (hw _ (List.mem_of_getElem? (i := 0) rfl))) (mvT hZ (hw _ (List.mem_of_getElem? (i := 1) rfl))) (mvT hZ (hw _ (List.mem_of_getElem? (i := 2) rfl))) (mvT hZ (hw _ (List.mem_of_getElem? (i := 3) rfl))) (by decide) (backOfSH (W := 0) (rm_subs0 l Z a0 hw [] wG1 wO2 wP5 wG3 wO4 wrG3 hstr hEL h0 n0 X00 c0 c1 c2 hl_c0 hl_c1 hl_c2) hZ (hw _ (List.mem_of_getElem? (i := 3) rfl)) (hw _ (List.mem_of_getElem? (i := 2) rfl)) (by decide) (by decide) hEL R0.1) (g := (mkF m 97 #[.val (.int p1), .val (.int p2), .val (.int (0 : Int32)), .val (.int (((p2.toUInt32 >>> ((2 : Int32) &&& 31).toUInt32).toInt32) &&& (3 : Int32))), .val (.int c0), .val (.int c1), .val (.int c2), .val (.int c3), .val (.int qq), .unset, .unset, .unset, .unset] [(.int c2), (.int c1), (.int c0), (.int (0 : Int32))])) rfl (by rw [hml]; rfl) (argsL := [(.int (0 : Int32)), (.int c0), (.int c1), (.int c2)]) (rest := []) (lenOf pd_31847132 rfl) rfl (by show 2 * 0 + _ ≤ _; exact Nat.le_of_eq rfl) (hb hby at_97) (fun _ _ => ⟨rfl, e0, (by decide : 0 + 6 ≤ _), (by decide : 0 + 12 ≤ _)⟩)
      dsimp only [Pt.U, Pt.locs, Pt.cells, Pt.slots] at X2 l2 y2 z2 st2 hQ2 Si2 Gr2 Rc2
      subst l2 y2 z2
      obtain ⟨x_2, t_2, k_2, rfl, Nq2, Kq2, zq2_0, fq2_0, fq2_1, fq2_2, fq2_3⟩ := hQ2
      refine OwnGoes.tr (T' := T2) (g' := (mkF m 100 #[.val (.int p1), .val (.int p2), .val (.int (0 : Int32)), .val (.int (((p2.toUInt32 >>> ((2 : Int32) &&& 31).toUInt32).toInt32) &&& (3 : Int32))), .val (.int c0), .val (.int c1), .val (.int c2), .val (.int c3), .val (.int qq), .unset, .unset, .unset, .unset] [(.ref x_2)])) st2 ?_
      have N2 := Fr.app N0 Nq2
      have g_x_2 : n0 ≤ x_2 := Nat.le_trans (Nat.le_trans Z0 K0.1) zq2_0
      have s_x_2 : h0.size ≤ x_2 := Nat.le_trans K0.1 zq2_0
      have gz2 : h0.size ≤ T2.heap.size := Rc2.2.1
      obtain ⟨X2, hS2, hZ2, ho2⟩ := rebS hS0 hk0 X2 Si2 gz2 hZ hown
      have Ol2 := X00.keep Kq2 all0
      have K2 : Keep h0 T2.heap ([] : List Addr) := K0.trans Kq2 all0
      have R2 := R0.trans Rc2
      refine OwnGoes.step (T' := T2) (g' := (mkF m 111 #[.val (.int p1), .val (.int p2), .val (.int (0 : Int32)), .val (.int (((p2.toUInt32 >>> ((2 : Int32) &&& 31).toUInt32).toInt32) &&& (3 : Int32))), .val (.int c0), .val (.int c1), .val (.int c2), .val (.int c3), .val (.int qq), .val (.ref x_2), .unset, .unset, .unset] [(.int (nar .char (((p2.toUInt32 >>> ((8 : Int32) &&& 31).toUInt32).toInt32) &&& (255 : Int32))))])) (fun tgt kgo => ?_) ?_
      · show Steps p.tables e below (T2.setTop (mkF m 100 #[.val (.int p1), .val (.int p2), .val (.int (0 : Int32)), .val (.int (((p2.toUInt32 >>> ((2 : Int32) &&& 31).toUInt32).toInt32) &&& (3 : Int32))), .val (.int c0), .val (.int c1), .val (.int c2), .val (.int c3), .val (.int qq), .unset, .unset, .unset, .unset] [(.ref x_2)])) tgt
        refine XS.astore X2.here hx rfl (hb hby at_100) rfl rfl (l' := #[.val (.int p1), .val (.int p2), .val (.int (0 : Int32)), .val (.int (((p2.toUInt32 >>> ((2 : Int32) &&& 31).toUInt32).toInt32) &&& (3 : Int32))), .val (.int c0), .val (.int c1), .val (.int c2), .val (.int c3), .val (.int qq), .val (.ref x_2), .unset, .unset, .unset]) rfl ?_
        show Steps p.tables e below (T2.setTop (mkF m 102 #[.val (.int p1), .val (.int p2), .val (.int (0 : Int32)), .val (.int (((p2.toUInt32 >>> ((2 : Int32) &&& 31).toUInt32).toInt32) &&& (3 : Int32))), .val (.int c0), .val (.int c1), .val (.int c2), .val (.int c3), .val (.int qq), .val (.ref x_2), .unset, .unset, .unset] [])) tgt
        refine XS.iloadN X2.here hx rfl (hb hby at_102) rfl ?_
        show Steps p.tables e below (T2.setTop (mkF m 103 #[.val (.int p1), .val (.int p2), .val (.int (0 : Int32)), .val (.int (((p2.toUInt32 >>> ((2 : Int32) &&& 31).toUInt32).toInt32) &&& (3 : Int32))), .val (.int c0), .val (.int c1), .val (.int c2), .val (.int c3), .val (.int qq), .val (.ref x_2), .unset, .unset, .unset] [(.int p2)])) tgt
        refine XS.bipush X2.here hx rfl (hb hby at_103) ?_
        show Steps p.tables e below (T2.setTop (mkF m 105 #[.val (.int p1), .val (.int p2), .val (.int (0 : Int32)), .val (.int (((p2.toUInt32 >>> ((2 : Int32) &&& 31).toUInt32).toInt32) &&& (3 : Int32))), .val (.int c0), .val (.int c1), .val (.int c2), .val (.int c3), .val (.int qq), .val (.ref x_2), .unset, .unset, .unset] [(.int (8 : Int32)), (.int p2)])) tgt
        refine XS.iushr X2.here hx rfl (hb hby at_105) rfl ?_
        show Steps p.tables e below (T2.setTop (mkF m 106 #[.val (.int p1), .val (.int p2), .val (.int (0 : Int32)), .val (.int (((p2.toUInt32 >>> ((2 : Int32) &&& 31).toUInt32).toInt32) &&& (3 : Int32))), .val (.int c0), .val (.int c1), .val (.int c2), .val (.int c3), .val (.int qq), .val (.ref x_2), .unset, .unset, .unset] [(.int ((p2.toUInt32 >>> ((8 : Int32) &&& 31).toUInt32).toInt32))])) tgt
        refine XS.sipush X2.here hx rfl (hb hby at_106) ?_
        show Steps p.tables e below (T2.setTop (mkF m 109 #[.val (.int p1), .val (.int p2), .val (.int (0 : Int32)), .val (.int (((p2.toUInt32 >>> ((2 : Int32) &&& 31).toUInt32).toInt32) &&& (3 : Int32))), .val (.int c0), .val (.int c1), .val (.int c2), .val (.int c3), .val (.int qq), .val (.ref x_2), .unset, .unset, .unset] [(.int (255 : Int32)), (.int ((p2.toUInt32 >>> ((8 : Int32) &&& 31).toUInt32).toInt32))])) tgt
        refine XS.iand X2.here hx rfl (hb hby at_109) rfl ?_
        show Steps p.tables e below (T2.setTop (mkF m 110 #[.val (.int p1), .val (.int p2), .val (.int (0 : Int32)), .val (.int (((p2.toUInt32 >>> ((2 : Int32) &&& 31).toUInt32).toInt32) &&& (3 : Int32))), .val (.int c0), .val (.int c1), .val (.int c2), .val (.int c3), .val (.int qq), .val (.ref x_2), .unset, .unset, .unset] [(.int (((p2.toUInt32 >>> ((8 : Int32) &&& 31).toUInt32).toInt32) &&& (255 : Int32)))])) tgt
        refine XS.i2c X2.here hx rfl (hb hby at_110) rfl ?_
        exact kgo
      obtain ⟨_, _, ⟨T3, L3, k3, n3⟩, -, X3, ⟨Lc3, hQ3, l3, y3, z3⟩, st3⟩ := Jvm.LawKit.callS X2 hx (y := (⟨"java/lang/String", "valueOf", "(C)Ljava/lang/String;"⟩ : MethodName)) ho2 (mvT hZ2 (hw _ (List.mem_of_getElem? (i := 34) rfl))) (mvT hZ2 (hw _ (List.mem_of_getElem? (i := 35) rfl))) (mvT hZ2 (hw _ (List.mem_of_getElem? (i := 6) rfl))) (mvT hZ2 (hw _ (List.mem_of_getElem? (i := 36) rfl))) (by decide) (backOf (W := 0) (rm_valueOf l Z a0 hw [] wG1 wO2 wP5 wG3 wO4 wrG3 hstr hEL T2.heap n0 Ol2 (nar .char (((p2.toUInt32 >>> ((8 : Int32) &&& 31).toUInt32).toInt32) &&& (255 : Int32))) (own_lat255 ((p2.toUInt32 >>> ((8 : Int32) &&& 31).toUInt32).toInt32)).2) hZ2 (hw _ (List.mem_of_getElem? (i := 36) rfl)) (hw _ (List.mem_of_getElem? (i := 6) rfl)) (by decide) (by decide)) (g := (mkF m 111 #[.val (.int p1), .val (.int p2), .val (.int (0 : Int32)), .val (.int (((p2.toUInt32 >>> ((2 : Int32) &&& 31).toUInt32).toInt32) &&& (3 : Int32))), .val (.int c0), .val (.int c1), .val (.int c2), .val (.int c3), .val (.int qq), .val (.ref x_2), .unset, .unset, .unset] [(.int (nar .char (((p2.toUInt32 >>> ((8 : Int32) &&& 31).toUInt32).toInt32) &&& (255 : Int32))))])) rfl (by rw [hml]; rfl) (argsL := [(.int (nar .char (((p2.toUInt32 >>> ((8 : Int32) &&& 31).toUInt32).toInt32) &&& (255 : Int32))))]) (rest := []) (lenOf pd_44149578 rfl) rfl (by show 2 * 0 + _ ≤ _; exact Nat.le_of_eq rfl) (hb hby at_111) (fun _ _ => ⟨rfl, rfl, (by decide : 6 + 2 ≤ _), (by decide : 12 + 5 ≤ _)⟩)
      dsimp only [Pt.U, Pt.locs, Pt.cells, Pt.slots] at X3 l3 y3 z3 st3 hQ3
      subst l3 y3 z3
      obtain ⟨x_3, t_3, k_3, rfl, Nq3, Kq3, zq3_0, zq3_1, fq3_0, fq3_1, fq3_2, fq3_3⟩ := hQ3
      refine OwnGoes.step (T' := T3) (g' := (mkF m 114 #[.val (.int p1), .val (.int p2), .val (.int (0 : Int32)), .val (.int (((p2.toUInt32 >>> ((2 : Int32) &&& 31).toUInt32).toInt32) &&& (3 : Int32))), .val (.int c0), .val (.int c1), .val (.int c2), .val (.int c3), .val (.int qq), .val (.ref x_2), .unset, .unset, .unset] [(.ref x_3)])) st3 ?_
      have N3 := Fr.app N2 Nq3
      have ne_x_2_x_3 : x_2 ≠ x_3 := Nat.ne_of_lt (Nat.lt_of_lt_of_le fq2_0.lt zq3_0)
      have ne_t_2_x_3 : t_2 ≠ x_3 := Nat.ne_of_lt (Nat.lt_of_lt_of_le fq2_3.lt zq3_0)
      have g_x_3 : n0 ≤ x_3 := Nat.le_trans (Nat.le_trans Z0 K2.1) zq3_0
      have s_x_3 : h0.size ≤ x_3 := Nat.le_trans K2.1 zq3_0
      have ne_x_2_t_3 : x_2 ≠ t_3 := Nat.ne_of_lt (Nat.lt_of_lt_of_le fq2_0.lt zq3_1)
      have ne_t_2_t_3 : t_2 ≠ t_3 := Nat.ne_of_lt (Nat.lt_of_lt_of_le fq2_3.lt zq3_1)
      have g_t_3 : n0 ≤ t_3 := Nat.le_trans (Nat.le_trans Z0 K2.1) zq3_1
      have s_t_3 : h0.size ≤ t_3 := Nat.le_trans K2.1 zq3_1
      have F3_1 := fq2_0.keep Kq3
      have F3_2 := fq2_1.keep Kq3 nin0
      have F3_3 := fq2_2.keep Kq3 nin0
      have F3_4 := fq2_3.keep Kq3 nin0
      have Ol3 := Ol2.keep Kq3 all0
      have K3 : Keep h0 T3.heap ([] : List Addr) := K2.trans Kq3 all0
      have R3 := R2.trans (CHr.keep Kq3 sf0 R2.1)
      have hk3 := Nat.le_trans (Nat.le_refl _) Kq3.1
      refine OwnGoes.step (T' := T3) (g' := (mkF m 116 #[.val (.int p1), .val (.int p2), .val (.int (0 : Int32)), .val (.int (((p2.toUInt32 >>> ((2 : Int32) &&& 31).toUInt32).toInt32) &&& (3 : Int32))), .val (.int c0), .val (.int c1), .val (.int c2), .val (.int c3), .val (.int qq), .val (.ref x_2), .val (.ref x_3), .unset, .unset] [])) (fun tgt kgo => ?_) ?_
      · show Steps p.tables e below (T3.setTop (mkF m 114 #[.val (.int p1), .val (.int p2), .val (.int (0 : Int32)), .val (.int (((p2.toUInt32 >>> ((2 : Int32) &&& 31).toUInt32).toInt32) &&& (3 : Int32))), .val (.int c0), .val (.int c1), .val (.int c2), .val (.int c3), .val (.int qq), .val (.ref x_2), .unset, .unset, .unset] [(.ref x_3)])) tgt
        refine XS.astore X3.here hx rfl (hb hby at_114) rfl rfl (l' := #[.val (.int p1), .val (.int p2), .val (.int (0 : Int32)), .val (.int (((p2.toUInt32 >>> ((2 : Int32) &&& 31).toUInt32).toInt32) &&& (3 : Int32))), .val (.int c0), .val (.int c1), .val (.int c2), .val (.int c3), .val (.int qq), .val (.ref x_2), .val (.ref x_3), .unset, .unset]) rfl ?_
        exact kgo
      obtain ⟨T4, h4, X4, e4, E4, A4, D4, U4, st4⟩ := newO X3 hx hZ2 ho2 (hw _ (List.mem_of_getElem? (i := 48) rfl)) (hw _ (List.mem_of_getElem? (i := 49) rfl)) (hw _ (List.mem_of_getElem? (i := 50) rfl)) rfl (g := (mkF m 116 #[.val (.int p1), .val (.int p2), .val (.int (0 : Int32)), .val (.int (((p2.toUInt32 >>> ((2 : Int32) &&& 31).toUInt32).toInt32) &&& (3 : Int32))), .val (.int c0), .val (.int c1), .val (.int c2), .val (.int c3), .val (.int qq), .val (.ref x_2), .val (.ref x_3), .unset, .unset] [])) rfl (hb hby at_116) (by decide) (by decide)
      obtain ⟨b4, g4⟩ : ∃ z, z = T3.heap.size := ⟨_, rfl⟩
      rw [← g4] at A4 D4 U4 st4
      refine OwnGoes.step (T' := T4) (g' := (mkF m 119 #[.val (.int p1), .val (.int p2), .val (.int (0 : Int32)), .val (.int (((p2.toUInt32 >>> ((2 : Int32) &&& 31).toUInt32).toInt32) &&& (3 : Int32))), .val (.int c0), .val (.int c1), .val (.int c2), .val (.int c3), .val (.int qq), .val (.ref x_2), .val (.ref x_3), .unset, .unset] [(.ref b4)])) st4 ?_
      have ne_x_2_b4 : x_2 ≠ b4 := Nat.ne_of_lt (Nat.lt_of_lt_of_le F3_1.lt (Nat.le_of_eq g4.symm))
      have ne_t_2_b4 : t_2 ≠ b4 := Nat.ne_of_lt (Nat.lt_of_lt_of_le F3_4.lt (Nat.le_of_eq g4.symm))
      have g_b4 : n0 ≤ b4 := Nat.le_trans (Nat.le_trans Z0 K3.1) (Nat.le_of_eq g4.symm)
      have s_b4 : h0.size ≤ b4 := Nat.le_trans K3.1 (Nat.le_of_eq g4.symm)
      have Sf4 : Safe Z consts_1 T2.vm h4 b4 := Safe.ext E4 R3.1 (Safe.new (Nat.le_of_eq g4.symm))
      have F4_5 := F3_1.ext E4
      have F4_6 := F3_2.ext E4
      have F4_7 := F3_3.ext E4
      have F4_8 := F3_4.ext E4
      have Ol4 := Ol3.ext E4
      have K4 : Keep h0 h4 ([] : List Addr) := K3.ext E4
      have R4 := R3.trans (CHr.ext E4 R3.1)
      have hk4 := Nat.le_trans hk3 E4.1
      have F4_9 : Fld Z h4 b4 "com/example/fieldwright/fieldwright/FieldStructure" "tag" "Ljava/lang/String;" .null := D4 (Or.inr (hw _ (List.mem_of_getElem? (i := 67) rfl))) (ty := (.object "java/lang/String")) (by decide)
      have F4_10 : Fld Z h4 b4 "com/example/fieldwright/fieldwright/FieldStructure" "indicator1" "Ljava/lang/String;" .null := D4 (Or.inr (hw _ (List.mem_of_getElem? (i := 69) rfl))) (ty := (.object "java/lang/String")) (by decide)
      have F4_11 : Fld Z h4 b4 "com/example/fieldwright/fieldwright/FieldStructure" "indicator2" "Ljava/lang/String;" .null := D4 (Or.inr (hw _ (List.mem_of_getElem? (i := 71) rfl))) (ty := (.object "java/lang/String")) (by decide)
      have F4_12 : Fld Z h4 b4 "com/example/fieldwright/fieldwright/FieldStructure" "indicatorRule" "Ljava/lang/String;" .null := D4 (Or.inr (hw _ (List.mem_of_getElem? (i := 73) rfl))) (ty := (.object "java/lang/String")) (by decide)
      have F4_13 : Fld Z h4 b4 "com/example/fieldwright/fieldwright/FieldStructure" "subfields" "Ljava/lang/String;" .null := D4 (Or.inr (hw _ (List.mem_of_getElem? (i := 75) rfl))) (ty := (.object "java/lang/String")) (by decide)
      have F4_14 : Fld Z h4 b4 "com/example/fieldwright/fieldwright/FieldStructure" "repeatable" "Ljava/lang/String;" .null := D4 (Or.inr (hw _ (List.mem_of_getElem? (i := 77) rfl))) (ty := (.object "java/lang/String")) (by decide)
      refine OwnGoes.step (T' := T4) (g' := (mkF m 120 #[.val (.int p1), .val (.int p2), .val (.int (0 : Int32)), .val (.int (((p2.toUInt32 >>> ((2 : Int32) &&& 31).toUInt32).toInt32) &&& (3 : Int32))), .val (.int c0), .val (.int c1), .val (.int c2), .val (.int c3), .val (.int qq), .val (.ref x_2), .val (.ref x_3), .unset, .unset] [(.ref b4), (.ref b4)])) (fun tgt kgo => ?_) ?_
      · show Steps p.tables e below (T4.setTop (mkF m 119 #[.val (.int p1), .val (.int p2), .val (.int (0 : Int32)), .val (.int (((p2.toUInt32 >>> ((2 : Int32) &&& 31).toUInt32).toInt32) &&& (3 : Int32))), .val (.int c0), .val (.int c1), .val (.int c2), .val (.int c3), .val (.int qq), .val (.ref x_2), .val (.ref x_3), .unset, .unset] [(.ref b4)])) tgt
        refine XS.dup X4.here hx rfl (hb hby at_119) rfl rfl ?_
        exact kgo
      obtain ⟨b5, T5, h5, kk5, X5, e5, E5, hS5, hk5, hZ5, ho5, Rc5, Lt5, st5⟩ := ldcOH X4 hx hZ2 ho2 (hw _ (List.mem_of_getElem? (i := 51) rfl)) hstr e4 hS2 hk4 hEL R4.1 (g := (mkF m 120 #[.val (.int p1), .val (.int p2), .val (.int (0 : Int32)), .val (.int (((p2.toUInt32 >>> ((2 : Int32) &&& 31).toUInt32).toInt32) &&& (3 : Int32))), .val (.int c0), .val (.int c1), .val (.int c2), .val (.int c3), .val (.int qq), .val (.ref x_2), .val (.ref x_3), .unset, .unset] [(.ref b4), (.ref b4)])) rfl (hb hby at_120) (n := 12) (by decide) (by decide) (by decide) (by decide)
      refine OwnGoes.step (T' := T5) (g' := (mkF m 122 #[.val (.int p1), .val (.int p2), .val (.int (0 : Int32)), .val (.int (((p2.toUInt32 >>> ((2 : Int32) &&& 31).toUInt32).toInt32) &&& (3 : Int32))), .val (.int c0), .val (.int c1), .val (.int c2), .val (.int c3), .val (.int qq), .val (.ref x_2), .val (.ref x_3), .unset, .unset] [(.ref b5), (.ref b4), (.ref b4)])) st5 ?_
      have F5_15 := F4_5.ext E5
      have F5_16 := F4_6.ext E5
      have F5_17 := F4_7.ext E5
      have F5_18 := F4_8.ext E5
      have F5_19 := Rc5.safe A4.lt Sf4
      have F5_20 := A4.ext E5
      have F5_21 := F4_9.ext E5
      have F5_22 := F4_10.ext E5
      have F5_23 := F4_11.ext E5
      have F5_24 := F4_12.ext E5
      have F5_25 := F4_13.ext E5
      have F5_26 := F4_14.ext E5
      have Ol5 := Ol4.ext E5
      have K5 : Keep h0 h5 ([] : List Addr) := K4.ext E5
      have R5 := R4.trans Rc5
      obtain ⟨b6, T6, h6, kk6, X6, e6, E6, hS6, hk6, hZ6, ho6, Rc6, Lt6, st6⟩ := ldcOH X5 hx hZ5 ho5 (hw _ (List.mem_of_getElem? (i := 54) rfl)) hstr e5 hS5 hk5 hEL R5.1 (g := (mkF m 122 #[.val (.int p1), .val (.int p2), .val (.int (0 : Int32)), .val (.int (((p2.toUInt32 >>> ((2 : Int32) &&& 31).toUInt32).toInt32) &&& (3 : Int32))), .val (.int c0), .val (.int c1), .val (.int c2), .val (.int c3), .val (.int qq), .val (.ref x_2), .val (.ref x_3), .unset, .unset] [(.ref b5), (.ref b4), (.ref b4)])) rfl (hb hby at_122) (n := 4) (by decide) (by decide) (by decide) (by decide)
      refine OwnGoes.step (T' := T6) (g' := (mkF m 124 #[.val (.int p1), .val (.int p2), .val (.int (0 : Int32)), .val (.int (((p2.toUInt32 >>> ((2 : Int32) &&& 31).toUInt32).toInt32) &&& (3 : Int32))), .val (.int c0), .val (.int c1), .val (.int c2), .val (.int c3), .val (.int qq), .val (.ref x_2), .val (.ref x_3), .unset, .unset] [(.ref b6), (.ref b5), (.ref b4), (.ref b4)])) st6 ?_
      have F6_27 := F5_15.ext E6
      have F6_28 := F5_16.ext E6
      have F6_29 := F5_17.ext E6
      have F6_30 := F5_18.ext E6
      have F6_31 := Rc6.safe F5_20.lt F5_19
      have F6_32 := F5_20.ext E6
      have F6_33 := F5_21.ext E6
      have F6_34 := F5_22.ext E6
      have F6_35 := F5_23.ext E6
      have F6_36 := F5_24.ext E6
      have F6_37 := F5_25.ext E6
      have F6_38 := F5_26.ext E6
      have Ol6 := Ol5.ext E6
      have K6 : Keep h0 h6 ([] : List Addr) := K5.ext E6
      have R6 := R5.trans Rc6
      obtain ⟨b7, T7, h7, kk7, X7, e7, E7, hS7, hk7, hZ7, ho7, Rc7, Lt7, st7⟩ := ldcOH X6 hx hZ6 ho6 (hw _ (List.mem_of_getElem? (i := 55) rfl)) hstr e6 hS6 hk6 hEL R6.1 (g := (mkF m 124 #[.val (.int p1), .val (.int p2), .val (.int (0 : Int32)), .val (.int (((p2.toUInt32 >>> ((2 : Int32) &&& 31).toUInt32).toInt32) &&& (3 : Int32))), .val (.int c0), .val (.int c1), .val (.int c2), .val (.int c3), .val (.int qq), .val (.ref x_2), .val (.ref x_3), .unset, .unset] [(.ref b6), (.ref b5), (.ref b4), (.ref b4)])) rfl (hb hby at_124) (n := 8) (by decide) (by decide) (by decide) (by decide)
      refine OwnGoes.step (T' := T7) (g' := (mkF m 126 #[.val (.int p1), .val (.int p2), .val (.int (0 : Int32)), .val (.int (((p2.toUInt32 >>> ((2 : Int32) &&& 31).toUInt32).toInt32) &&& (3 : Int32))), .val (.int c0), .val (.int c1), .val (.int c2), .val (.int c3), .val (.int qq), .val (.ref x_2), .val (.ref x_3), .unset, .unset] [(.ref b7), (.ref b6), (.ref b5), (.ref b4), (.ref b4)])) st7 ?_
      have F7_39 := F6_27.ext E7
      have F7_40 := F6_28.ext E7
      have F7_41 := F6_29.ext E7
      have F7_42 := F6_30.ext E7
      have F7_43 := Rc7.safe F6_32.lt F6_31
      have F7_44 := F6_32.ext E7
      have F7_45 := F6_33.ext E7
      have F7_46 := F6_34.ext E7
      have F7_47 := F6_35.ext E7
      have F7_48 := F6_36.ext E7
      have F7_49 := F6_37.ext E7
      have F7_50 := F6_38.ext E7
      have Ol7 := Ol6.ext E7
      have K7 : Keep h0 h7 ([] : List Addr) := K6.ext E7
      have R7 := R6.trans Rc7
      obtain ⟨b8, T8, h8, kk8, X8, e8, E8, hS8, hk8, hZ8, ho8, Rc8, Lt8, st8⟩ := ldcOH X7 hx hZ7 ho7 (hw _ (List.mem_of_getElem? (i := 56) rfl)) hstr e7 hS7 hk7 hEL R7.1 (g := (mkF m 126 #[.val (.int p1), .val (.int p2), .val (.int (0 : Int32)), .val (.int (((p2.toUInt32 >>> ((2 : Int32) &&& 31).toUInt32).toInt32) &&& (3 : Int32))), .val (.int c0), .val (.int c1), .val (.int c2), .val (.int c3), .val (.int qq), .val (.ref x_2), .val (.ref x_3), .unset, .unset] [(.ref b7), (.ref b6), (.ref b5), (.ref b4), (.ref b4)])) rfl (hb hby at_126) (n := 16) (by decide) (by decide) (by decide) (by decide)
      refine OwnGoes.step (T' := T8) (g' := (mkF m 128 #[.val (.int p1), .val (.int p2), .val (.int (0 : Int32)), .val (.int (((p2.toUInt32 >>> ((2 : Int32) &&& 31).toUInt32).toInt32) &&& (3 : Int32))), .val (.int c0), .val (.int c1), .val (.int c2), .val (.int c3), .val (.int qq), .val (.ref x_2), .val (.ref x_3), .unset, .unset] [(.ref b8), (.ref b7), (.ref b6), (.ref b5), (.ref b4), (.ref b4)])) st8 ?_
      have F8_51 := F7_39.ext E8
      have F8_52 := F7_40.ext E8
      have F8_53 := F7_41.ext E8
      have F8_54 := F7_42.ext E8
      have F8_55 := Rc8.safe F7_44.lt F7_43
      have F8_56 := F7_44.ext E8
      have F8_57 := F7_45.ext E8
      have F8_58 := F7_46.ext E8
      have F8_59 := F7_47.ext E8
      have F8_60 := F7_48.ext E8
      have F8_61 := F7_49.ext E8
      have F8_62 := F7_50.ext E8
      have Ol8 := Ol7.ext E8
      have K8 : Keep h0 h8 ([] : List Addr) := K7.ext E8
      have R8 := R7.trans Rc8
      refine OwnGoes.step (T' := T8) (g' := (mkF m 132 #[.val (.int p1), .val (.int p2), .val (.int (0 : Int32)), .val (.int (((p2.toUInt32 >>> ((2 : Int32) &&& 31).toUInt32).toInt32) &&& (3 : Int32))), .val (.int c0), .val (.int c1), .val (.int c2), .val (.int c3), .val (.int qq), .val (.ref x_2), .val (.ref x_3), .unset, .unset] [(.ref x_3), (.ref x_2), (.ref b8), (.ref b7), (.ref b6), (.ref b5), (.ref b4), (.ref b4)])) (fun tgt kgo => ?_) ?_
      · show Steps p.tables e below (T8.setTop (mkF m 128 #[.val (.int p1), .val (.int p2), .val (.int (0 : Int32)), .val (.int (((p2.toUInt32 >>> ((2 : Int32) &&& 31).toUInt32).toInt32) &&& (3 : Int32))), .val (.int c0), .val (.int c1), .val (.int c2), .val (.int c3), .val (.int qq), .val (.ref x_2), .val (.ref x_3), .unset, .unset] [(.ref b8), (.ref b7), (.ref b6), (.ref b5), (.ref b4), (.ref b4)])) tgt
        refine XS.aload X8.here hx rfl (hb hby at_128) rfl rfl ?_
        show Steps p.tables e below (T8.setTop (mkF m 130 #[.val (.int p1), .val (.int p2), .val (.int (0 : Int32)), .val (.int (((p2.toUInt32 >>> ((2 : Int32) &&& 31).toUInt32).toInt32) &&& (3 : Int32))), .val (.int c0), .val (.int c1), .val (.int c2), .val (.int c3), .val (.int qq), .val (.ref x_2), .val (.ref x_3), .unset, .unset] [(.ref x_2), (.ref b8), (.ref b7), (.ref b6), (.ref b5), (.ref b4), (.ref b4)])) tgt
        refine XS.aload X8.here hx rfl (hb hby at_130) rfl rfl ?_
        exact kgo
      obtain ⟨_, _, ⟨T9, L9, k9, n9⟩, -, X9, ⟨Lc9, hQ9, l9, y9, z9⟩, st9⟩ := X8.specialBack hx (y := (⟨"com/example/fieldwright/fieldwright/FieldStructure", "<init>", "(Ljava/lang/String;Ljava/lang/String;Ljava/lang/String;Ljava/lang/String;Ljava/lang/String;Ljava/lang/String;)V"⟩ : MethodName)) rfl ho8 (mvT hZ8 (hw _ (List.mem_of_getElem? (i := 57) rfl))) (mvT hZ8 (hw _ (List.mem_of_getElem? (i := 58) rfl))) (mvT hZ8 (hw _ (List.mem_of_getElem? (i := 59) rfl))) (by decide) (backOf (W := 1) (rm_fini l Z a0 hw [] wG1 wO2 wP5 wG3 wO4 wrG3 hstr hEL h8 n0 Ol8 b4 b5 b6 b7 b8 x_2 x_3 F8_56 F8_57 F8_58 F8_59 F8_60 F8_61 F8_62 g_b4) hZ8 (hw _ (List.mem_of_getElem? (i := 59) rfl)) (hw _ (List.mem_of_getElem? (i := 50) rfl)) (by decide) (by decide)) (g := (mkF m 132 #[.val (.int p1), .val (.int p2), .val (.int (0 : Int32)), .val (.int (((p2.toUInt32 >>> ((2 : Int32) &&& 31).toUInt32).toInt32) &&& (3 : Int32))), .val (.int c0), .val (.int c1), .val (.int c2), .val (.int c3), .val (.int qq), .val (.ref x_2), .val (.ref x_3), .unset, .unset] [(.ref x_3), (.ref x_2), (.ref b8), (.ref b7), (.ref b6), (.ref b5), (.ref b4), (.ref b4)])) rfl (by rw [hml]; rfl) (Steps.refl _) (a := b4) (argsL := [(.ref b5), (.ref b6), (.ref b7), (.ref b8), (.ref x_2), (.ref x_3)]) (rest := [(.ref b4)]) (lenOf pd_60881529 rfl) rfl (by show 2 * 0 + _ ≤ _; exact Nat.le_of_eq rfl) (hb hby at_132) (fun _ _ => ⟨rfl, e8, (by decide : 17 + 0 ≤ _), (by decide : 79 + 0 ≤ _)⟩)
      dsimp only [Pt.U, Pt.locs, Pt.cells, Pt.slots] at X9 l9 y9 z9 st9 hQ9
      subst l9 y9 z9
      obtain ⟨rfl, Nq9, Kq9, fq9_0, fq9_1⟩ := hQ9
      refine OwnGoes.tr (T' := T9) (g' := (mkF m 135 #[.val (.int p1), .val (.int p2), .val (.int (0 : Int32)), .val (.int (((p2.toUInt32 >>> ((2 : Int32) &&& 31).toUInt32).toInt32) &&& (3 : Int32))), .val (.int c0), .val (.int c1), .val (.int c2), .val (.int c3), .val (.int qq), .val (.ref x_2), .val (.ref x_3), .unset, .unset] [(.ref b4)])) st9 ?_
      have N9 := Fr.app N3 Nq9
      have F9_63 := F8_51.keep Kq9
      have F9_64 := F8_52.keep Kq9 (ninS ne_x_2_b4 nin0)
      have F9_65 := F8_53.keep Kq9 (ninS ne_x_2_b4 nin0)
      have F9_66 := F8_54.keep Kq9 (ninS ne_t_2_b4 nin0)
      have F9_67 := Safe.keep Kq9 (sfS F8_55 sf0) R8.1 F8_55
      have F9_68 := F8_56.keep Kq9
      have Ol9 := Ol8.keep Kq9 (allS g_b4 all0)
      have K9 : Keep h0 T9.heap ([] : List Addr) := K8.trans Kq9 (allS (Or.inr s_b4) all0)
      have R9 := R8.trans (CHr.keep Kq9 (sfS F8_55 sf0) R8.1)
      have hk9 := Nat.le_trans hk8 Kq9.1
      refine OwnGoes.step (T' := T9) (g' := (mkF m 184 #[.val (.int p1), .val (.int p2), .val (.int (0 : Int32)), .val (.int (((p2.toUInt32 >>> ((2 : Int32) &&& 31).toUInt32).toInt32) &&& (3 : Int32))), .val (.int c0), .val (.int c1), .val (.int c2), .val (.int c3), .val (.int qq), .val (.ref x_2), .val (.ref x_3), .val (.ref b4), .val (.int (0 : Int32))] [(.int qq), (.ref b4)])) (fun tgt kgo => ?_) ?_
      · show Steps p.tables e below (T9.setTop (mkF m 135 #[.val (.int p1), .val (.int p2), .val (.int (0 : Int32)), .val (.int (((p2.toUInt32 >>> ((2 : Int32) &&& 31).toUInt32).toInt32) &&& (3 : Int32))), .val (.int c0), .val (.int c1), .val (.int c2), .val (.int c3), .val (.int qq), .val (.ref x_2), .val (.ref x_3), .unset, .unset] [(.ref b4)])) tgt
        refine XS.astore X9.here hx rfl (hb hby at_135) rfl rfl (l' := #[.val (.int p1), .val (.int p2), .val (.int (0 : Int32)), .val (.int (((p2.toUInt32 >>> ((2 : Int32) &&& 31).toUInt32).toInt32) &&& (3 : Int32))), .val (.int c0), .val (.int c1), .val (.int c2), .val (.int c3), .val (.int qq), .val (.ref x_2), .val (.ref x_3), .val (.ref b4), .unset]) rfl ?_
        show Steps p.tables e below (T9.setTop (mkF m 137 #[.val (.int p1), .val (.int p2), .val (.int (0 : Int32)), .val (.int (((p2.toUInt32 >>> ((2 : Int32) &&& 31).toUInt32).toInt32) &&& (3 : Int32))), .val (.int c0), .val (.int c1), .val (.int c2), .val (.int c3), .val (.int qq), .val (.ref x_2), .val (.ref x_3), .val (.ref b4), .unset] [])) tgt
        refine XS.iloadN X9.here hx rfl (hb hby at_137) rfl ?_
        show Steps p.tables e below (T9.setTop (mkF m 138 #[.val (.int p1), .val (.int p2), .val (.int (0 : Int32)), .val (.int (((p2.toUInt32 >>> ((2 : Int32) &&& 31).toUInt32).toInt32) &&& (3 : Int32))), .val (.int c0), .val (.int c1), .val (.int c2), .val (.int c3), .val (.int qq), .val (.ref x_2), .val (.ref x_3), .val (.ref b4), .unset] [(.int (0 : Int32))])) tgt
        refine XS.iconst X9.here hx rfl (hb hby at_138) ?_
        show Steps p.tables e below (T9.setTop (mkF m 139 #[.val (.int p1), .val (.int p2), .val (.int (0 : Int32)), .val (.int (((p2.toUInt32 >>> ((2 : Int32) &&& 31).toUInt32).toInt32) &&& (3 : Int32))), .val (.int c0), .val (.int c1), .val (.int c2), .val (.int c3), .val (.int qq), .val (.ref x_2), .val (.ref x_3), .val (.ref b4), .unset] [(.int (1 : Int32)), (.int (0 : Int32))])) tgt
        refine XS.icmpYes X9.here hx rfl (pc0 := 139) (pc' := 149) rfl (hb hby at_139) rfl (tlt (by decide : (0 : Int32) < (1 : Int32))).1 (by decide) (by decide) ?_
        show Steps p.tables e below (T9.setTop (mkF m 149 #[.val (.int p1), .val (.int p2), .val (.int (0 : Int32)), .val (.int (((p2.toUInt32 >>> ((2 : Int32) &&& 31).toUInt32).toInt32) &&& (3 : Int32))), .val (.int c0), .val (.int c1), .val (.int c2), .val (.int c3), .val (.int qq), .val (.ref x_2), .val (.ref x_3), .val (.ref b4), .unset] [])) tgt
        refine XS.iloadN X9.here hx rfl (hb hby at_149) rfl ?_
        show Steps p.tables e below (T9.setTop (mkF m 150 #[.val (.int p1), .val (.int p2), .val (.int (0 : Int32)), .val (.int (((p2.toUInt32 >>> ((2 : Int32) &&& 31).toUInt32).toInt32) &&& (3 : Int32))), .val (.int c0), .val (.int c1), .val (.int c2), .val (.int c3), .val (.int qq), .val (.ref x_2), .val (.ref x_3), .val (.ref b4), .unset] [(.int (0 : Int32))])) tgt
        refine XS.iconst X9.here hx rfl (hb hby at_150) ?_
        show Steps p.tables e below (T9.setTop (mkF m 151 #[.val (.int p1), .val (.int p2), .val (.int (0 : Int32)), .val (.int (((p2.toUInt32 >>> ((2 : Int32) &&& 31).toUInt32).toInt32) &&& (3 : Int32))), .val (.int c0), .val (.int c1), .val (.int c2), .val (.int c3), .val (.int qq), .val (.ref x_2), .val (.ref x_3), .val (.ref b4), .unset] [(.int (2 : Int32)), (.int (0 : Int32))])) tgt
        refine XS.icmpYes X9.here hx rfl (pc0 := 151) (pc' := 161) rfl (hb hby at_151) rfl (tlt (by decide : (0 : Int32) < (2 : Int32))).1 (by decide) (by decide) ?_
        show Steps p.tables e below (T9.setTop (mkF m 161 #[.val (.int p1), .val (.int p2), .val (.int (0 : Int32)), .val (.int (((p2.toUInt32 >>> ((2 : Int32) &&& 31).toUInt32).toInt32) &&& (3 : Int32))), .val (.int c0), .val (.int c1), .val (.int c2), .val (.int c3), .val (.int qq), .val (.ref x_2), .val (.ref x_3), .val (.ref b4), .unset] [])) tgt
        refine XS.iloadN X9.here hx rfl (hb hby at_161) rfl ?_
        show Steps p.tables e below (T9.setTop (mkF m 162 #[.val (.int p1), .val (.int p2), .val (.int (0 : Int32)), .val (.int (((p2.toUInt32 >>> ((2 : Int32) &&& 31).toUInt32).toInt32) &&& (3 : Int32))), .val (.int c0), .val (.int c1), .val (.int c2), .val (.int c3), .val (.int qq), .val (.ref x_2), .val (.ref x_3), .val (.ref b4), .unset] [(.int (0 : Int32))])) tgt
        refine XS.iconst X9.here hx rfl (hb hby at_162) ?_
        show Steps p.tables e below (T9.setTop (mkF m 163 #[.val (.int p1), .val (.int p2), .val (.int (0 : Int32)), .val (.int (((p2.toUInt32 >>> ((2 : Int32) &&& 31).toUInt32).toInt32) &&& (3 : Int32))), .val (.int c0), .val (.int c1), .val (.int c2), .val (.int c3), .val (.int qq), .val (.ref x_2), .val (.ref x_3), .val (.ref b4), .unset] [(.int (3 : Int32)), (.int (0 : Int32))])) tgt
        refine XS.icmpYes X9.here hx rfl (pc0 := 163) (pc' := 177) rfl (hb hby at_163) rfl (tlt (by decide : (0 : Int32) < (3 : Int32))).1 (by decide) (by decide) ?_
        show Steps p.tables e below (T9.setTop (mkF m 177 #[.val (.int p1), .val (.int p2), .val (.int (0 : Int32)), .val (.int (((p2.toUInt32 >>> ((2 : Int32) &&& 31).toUInt32).toInt32) &&& (3 : Int32))), .val (.int c0), .val (.int c1), .val (.int c2), .val (.int c3), .val (.int qq), .val (.ref x_2), .val (.ref x_3), .val (.ref b4), .unset] [])) tgt
        refine XS.iconst X9.here hx rfl (hb hby at_177) ?_
        show Steps p.tables e below (T9.setTop (mkF m 178 #[.val (.int p1), .val (.int p2), .val (.int (0 : Int32)), .val (.int (((p2.toUInt32 >>> ((2 : Int32) &&& 31).toUInt32).toInt32) &&& (3 : Int32))), .val (.int c0), .val (.int c1), .val (.int c2), .val (.int c3), .val (.int qq), .val (.ref x_2), .val (.ref x_3), .val (.ref b4), .unset] [(.int (0 : Int32))])) tgt
        refine XS.istore X9.here hx rfl (hb hby at_178) rfl (l' := #[.val (.int p1), .val (.int p2), .val (.int (0 : Int32)), .val (.int (((p2.toUInt32 >>> ((2 : Int32) &&& 31).toUInt32).toInt32) &&& (3 : Int32))), .val (.int c0), .val (.int c1), .val (.int c2), .val (.int c3), .val (.int qq), .val (.ref x_2), .val (.ref x_3), .val (.ref b4), .val (.int (0 : Int32))]) rfl ?_
        show Steps p.tables e below (T9.setTop (mkF m 180 #[.val (.int p1), .val (.int p2), .val (.int (0 : Int32)), .val (.int (((p2.toUInt32 >>> ((2 : Int32) &&& 31).toUInt32).toInt32) &&& (3 : Int32))), .val (.int c0), .val (.int c1), .val (.int c2), .val (.int c3), .val (.int qq), .val (.ref x_2), .val (.ref x_3), .val (.ref b4), .val (.int (0 : Int32))] [])) tgt
        refine XS.aload X9.here hx rfl (hb hby at_180) rfl rfl ?_
        show Steps p.tables e below (T9.setTop (mkF m 182 #[.val (.int p1), .val (.int p2), .val (.int (0 : Int32)), .val (.int (((p2.toUInt32 >>> ((2 : Int32) &&& 31).toUInt32).toInt32) &&& (3 : Int32))), .val (.int c0), .val (.int c1), .val (.int c2), .val (.int c3), .val (.int qq), .val (.ref x_2), .val (.ref x_3), .val (.ref b4), .val (.int (0 : Int32))] [(.ref b4)])) tgt
        refine XS.iload X9.here hx rfl (hb hby at_182) rfl ?_
        exact kgo
      obtain ⟨cq10, kq10, q10a, q10b, q10c⟩ := isOf (s := (s.setVm T8.vm)) hZ8 rfl fq9_0
      obtain ⟨_, _, ⟨T10, L10, k10, n10⟩, -, X10, ⟨Lc10, hQ10, l10, y10, z10⟩, st10⟩ := X9.virtualBack hx (y := (⟨"com/example/fieldwright/fieldwright/FieldStructure", "allows", "(C)Z"⟩ : MethodName)) (z := (⟨"com/example/fieldwright/fieldwright/FieldStructure", "allows", "(C)Z"⟩ : MethodName)) ho8 (mvT hZ8 (hw _ (List.mem_of_getElem? (i := 78) rfl))) (mvT hZ8 (hw _ (List.mem_of_getElem? (i := 79) rfl))) (notFace_of_selects (args := #[]) (mvT hZ8 (hw _ (List.mem_of_getElem? (i := 81) rfl)))) (mvT hZ8 (hw _ (List.mem_of_getElem? (i := 81) rfl))) (mvT hZ8 (hw _ (List.mem_of_getElem? (i := 80) rfl))) (by decide) (backOf (W := 0) (rm_alw0 l Z a0 hw [] wG1 wO2 wP5 wG3 wO4 wrG3 hstr hEL T9.heap n0 Ol9 b4 x_2 t_2 k_2 qq fq9_1 F9_63 F9_64 F9_65 F9_66 hz1) hZ8 (hw _ (List.mem_of_getElem? (i := 82) rfl)) (hw _ (List.mem_of_getElem? (i := 50) rfl)) (by decide) (by decide)) q10a q10c (g := (mkF m 184 #[.val (.int p1), .val (.int p2), .val (.int (0 : Int32)), .val (.int (((p2.toUInt32 >>> ((2 : Int32) &&& 31).toUInt32).toInt32) &&& (3 : Int32))), .val (.int c0), .val (.int c1), .val (.int c2), .val (.int c3), .val (.int qq), .val (.ref x_2), .val (.ref x_3), .val (.ref b4), .val (.int (0 : Int32))] [(.int qq), (.ref b4)])) rfl (by rw [hml]; rfl) (Steps.refl _) (argsL := [(.int qq)]) (rest := []) (lenOf pd_92619605 rfl) rfl (by show 2 * 0 + _ ≤ _; exact Nat.le_of_eq rfl) (hb hby at_184) (fun _ _ => ⟨rfl, rfl, (by decide : 17 + 0 ≤ _), (by decide : 79 + 0 ≤ _)⟩)
      dsimp only [Pt.U, Pt.locs, Pt.cells, Pt.slots] at X10 l10 y10 z10 st10 hQ10
      subst l10 y10 z10
      obtain ⟨r_10, rfl, Nq10, eq10, pq10_0⟩ := hQ10
      refine OwnGoes.tr (T' := T10) (g' := (mkF m 187 #[.val (.int p1), .val (.int p2), .val (.int (0 : Int32)), .val (.int (((p2.toUInt32 >>> ((2 : Int32) &&& 31).toUInt32).toInt32) &&& (3 : Int32))), .val (.int c0), .val (.int c1), .val (.int c2), .val (.int c3), .val (.int qq), .val (.ref x_2), .val (.ref x_3), .val (.ref b4), .val (.int (0 : Int32))] [(.int r_10)])) st10 ?_
      have N10 := Fr.app N9 Nq10
      refine OwnGoes.step (T' := T10) (g' := (mkF m 189 #[.val (.int p1), .val (.int p2), .val (.int (0 : Int32)), .val (.int (((p2.toUInt32 >>> ((2 : Int32) &&& 31).toUInt32).toInt32) &&& (3 : Int32))), .val (.int c0), .val (.int c1), .val (.int c2), .val (.int c3), .val (.int qq), .val (.ref x_2), .val (.ref x_3), .val (.ref b4), .val (.int (0 : Int32))] [(.int (0 : Int32)), (.int r_10)])) (fun tgt kgo => ?_) ?_
      · show Steps p.tables e below (T10.setTop (mkF m 187 #[.val (.int p1), .val (.int p2), .val (.int (0 : Int32)), .val (.int (((p2.toUInt32 >>> ((2 : Int32) &&& 31).toUInt32).toInt32) &&& (3 : Int32))), .val (.int c0), .val (.int c1), .val (.int c2), .val (.int c3), .val (.int qq), .val (.ref x_2), .val (.ref x_3), .val (.ref b4), .val (.int (0 : Int32))] [(.int r_10)])) tgt
        refine XS.iload X10.here hx rfl (hb hby at_187) rfl ?_
        exact kgo
      rcases pq10_0 with ⟨hw1, rfl⟩ | ⟨hw1, rfl⟩
      · skip
        exfalso
        exact hw1
      · skip
        refine OwnGoes.step (T' := T10) (g' := (mkF m 197 #[.val (.int p1), .val (.int p2), .val (.int (0 : Int32)), .val (.int (((p2.toUInt32 >>> ((2 : Int32) &&& 31).toUInt32).toInt32) &&& (3 : Int32))), .val (.int c0), .val (.int c1), .val (.int c2), .val (.int c3), .val (.int qq), .val (.ref x_2), .val (.ref x_3), .val (.ref b4), .val (.int (0 : Int32))] [(.int (1 : Int32))])) (fun tgt kgo => ?_) ?_
        · show Steps p.tables e below (T10.setTop (mkF m 189 #[.val (.int p1), .val (.int p2), .val (.int (0 : Int32)), .val (.int (((p2.toUInt32 >>> ((2 : Int32) &&& 31).toUInt32).toInt32) &&& (3 : Int32))), .val (.int c0), .val (.int c1), .val (.int c2), .val (.int c3), .val (.int qq), .val (.ref x_2), .val (.ref x_3), .val (.ref b4), .val (.int (0 : Int32))] [(.int (0 : Int32)), (.int 0)])) tgt
          refine XS.icmpNo X10.here hx rfl (hb hby at_189) rfl (teq rfl).2 ?_
          show Steps p.tables e below (T10.setTop (mkF m 192 #[.val (.int p1), .val (.int p2), .val (.int (0 : Int32)), .val (.int (((p2.toUInt32 >>> ((2 : Int32) &&& 31).toUInt32).toInt32) &&& (3 : Int32))), .val (.int c0), .val (.int c1), .val (.int c2), .val (.int c3), .val (.int qq), .val (.ref x_2), .val (.ref x_3), .val (.ref b4), .val (.int (0 : Int32))] [])) tgt
          refine XS.iconst X10.here hx rfl (hb hby at_192) ?_
          show Steps p.tables e below (T10.setTop (mkF m 193 #[.val (.int p1), .val (.int p2), .val (.int (0 : Int32)), .val (.int (((p2.toUInt32 >>> ((2 : Int32) &&& 31).toUInt32).toInt32) &&& (3 : Int32))), .val (.int c0), .val (.int c1), .val (.int c2), .val (.int c3), .val (.int qq), .val (.ref x_2), .val (.ref x_3), .val (.ref b4), .val (.int (0 : Int32))] [(.int (1 : Int32))])) tgt
          refine XS.goto X10.here hx rfl (pc0 := 193) (pc' := 197) rfl (hb hby at_193) (by decide) (by decide) ?_
          exact kgo
        refine own_leaveW (Z := Z) (EL := consts_1) X10 hS8 (eq10 ▸ hk9) hlk (v := some (.int (1 : Int32))) (fun h => by rw [Bd.returns] at h; cases h) (fun fs hr => retN X10 hx (t := .boolean) Bd.returns (by simp) (hb hby at_197) (by rw [(by decide : nar .boolean (1 : Int32) = (1 : Int32))]; exact hr)) (by decide) (by decide) ?_ ?_
        · rw [hh, eq10]
          exact R9.trans (CHv.at X10 hZ8 hEL R9.1)
        show Q_law Z p1 p2 h0 n0 _ T10.heap _
        rw [eq10]
        exact ⟨rfl, N10⟩
    · skip
      rw [hn3]
      obtain ⟨_, _, ⟨T12, L12, k12, n12⟩, -, X12, ⟨Lc12, hQ12, l12, y12, z12⟩, st12⟩ := Jvm.LawKit.callS X0 hx (y := (⟨"com/example/fieldwright/fieldwright/FieldStructureAllowsPinLaw", "subs", "(ICCC)Ljava/lang/String;"⟩ : MethodName)) hown (mvT hZ (hw _ (List.mem_of_getElem? (i := 0) rfl))) (mvT hZ (hw _ (List.mem_of_getElem? (i := 1) rfl))) (mvT hZ (hw _ (List.mem_of_getElem? (i := 2) rfl))) (mvT hZ (hw _ (List.mem_of_getElem? (i := 3) rfl))) (by decide) (backOf (W := 0) (rm_subs1 l Z a0 hw [] wG1 wO2 wP5 wG3 wO4 wrG3 hstr hEL h0 n0 X00 c0 c1 c2 hl_c0 hl_c1 hl_c2) hZ (hw _ (List.mem_of_getElem? (i := 3) rfl)) (hw _ (List.mem_of_getElem? (i := 2) rfl)) (by decide) (by decide)) (g := (mkF m 97 #[.val (.int p1), .val (.int p2), .val (.int (1 : Int32)), .val (.int (((p2.toUInt32 >>> ((2 : Int32) &&& 31).toUInt32).toInt32) &&& (3 : Int32))), .val (.int c0), .val (.int c1), .val (.int c2), .val (.int c3), .val (.int qq), .unset, .unset, .unset, .unset] [(.int c2), (.int c1), (.int c0), (.int (1 : Int32))])) rfl (by rw [hml]; rfl) (argsL := [(.int (1 : Int32)), (.int c0), (.int c1), (.int c2)]) (rest := []) (lenOf pd_31847132 rfl) rfl (by show 2 * 0 + _ ≤ _; exact Nat.le_of_eq rfl) (hb hby at_97) (fun _ _ => ⟨rfl, e0, (by decide : 0 + 3 ≤ _), (by decide : 0 + 6 ≤ _)⟩)
      dsimp only [Pt.U, Pt.locs, Pt.cells, Pt.slots] at X12 l12 y12 z12 st12 hQ12
      subst l12 y12 z12
      obtain ⟨x_12, t_12, k_12, rfl, Nq12, Kq12, zq12_0, fq12_0, fq12_1, fq12_2, fq12_3⟩ := hQ12
      refine OwnGoes.step (T' := T12) (g' := (mkF m 100 #[.val (.int p1), .val (.int p2), .val (.int (1 : Int32)), .val (.int (((p2.toUInt32 >>> ((2 : Int32) &&& 31).toUInt32).toInt32) &&& (3 : Int32))), .val (.int c0), .val (.int c1), .val (.int c2), .val (.int c3), .val (.int qq), .unset, .unset, .unset, .unset] [(.ref x_12)])) st12 ?_
      have N12 := Fr.app N0 Nq12
      have g_x_12 : n0 ≤ x_12 := Nat.le_trans (Nat.le_trans Z0 K0.1) zq12_0
      have s_x_12 : h0.size ≤ x_12 := Nat.le_trans K0.1 zq12_0
      have Ol12 := X00.keep Kq12 all0
      have K12 : Keep h0 T12.heap ([] : List Addr) := K0.trans Kq12 all0
      have R12 := R0.trans (CHr.keep Kq12 sf0 R0.1)
      have hk12 := Nat.le_trans hk0 Kq12.1
      refine OwnGoes.step (T' := T12) (g' := (mkF m 111 #[.val (.int p1), .val (.int p2), .val (.int (1 : Int32)), .val (.int (((p2.toUInt32 >>> ((2 : Int32) &&& 31).toUInt32).toInt32) &&& (3 : Int32))), .val (.int c0), .val (.int c1), .val (.int c2), .val (.int c3), .val (.int qq), .val (.ref x_12), .unset, .unset, .unset] [(.int (nar .char (((p2.toUInt32 >>> ((8 : Int32) &&& 31).toUInt32).toInt32) &&& (255 : Int32))))])) (fun tgt kgo => ?_) ?_
      · show Steps p.tables e below (T12.setTop (mkF m 100 #[.val (.int p1), .val (.int p2), .val (.int (1 : Int32)), .val (.int (((p2.toUInt32 >>> ((2 : Int32) &&& 31).toUInt32).toInt32) &&& (3 : Int32))), .val (.int c0), .val (.int c1), .val (.int c2), .val (.int c3), .val (.int qq), .unset, .unset, .unset, .unset] [(.ref x_12)])) tgt
        refine XS.astore X12.here hx rfl (hb hby at_100) rfl rfl (l' := #[.val (.int p1), .val (.int p2), .val (.int (1 : Int32)), .val (.int (((p2.toUInt32 >>> ((2 : Int32) &&& 31).toUInt32).toInt32) &&& (3 : Int32))), .val (.int c0), .val (.int c1), .val (.int c2), .val (.int c3), .val (.int qq), .val (.ref x_12), .unset, .unset, .unset]) rfl ?_
        show Steps p.tables e below (T12.setTop (mkF m 102 #[.val (.int p1), .val (.int p2), .val (.int (1 : Int32)), .val (.int (((p2.toUInt32 >>> ((2 : Int32) &&& 31).toUInt32).toInt32) &&& (3 : Int32))), .val (.int c0), .val (.int c1), .val (.int c2), .val (.int c3), .val (.int qq), .val (.ref x_12), .unset, .unset, .unset] [])) tgt
        refine XS.iloadN X12.here hx rfl (hb hby at_102) rfl ?_
        show Steps p.tables e below (T12.setTop (mkF m 103 #[.val (.int p1), .val (.int p2), .val (.int (1 : Int32)), .val (.int (((p2.toUInt32 >>> ((2 : Int32) &&& 31).toUInt32).toInt32) &&& (3 : Int32))), .val (.int c0), .val (.int c1), .val (.int c2), .val (.int c3), .val (.int qq), .val (.ref x_12), .unset, .unset, .unset] [(.int p2)])) tgt
        refine XS.bipush X12.here hx rfl (hb hby at_103) ?_
        show Steps p.tables e below (T12.setTop (mkF m 105 #[.val (.int p1), .val (.int p2), .val (.int (1 : Int32)), .val (.int (((p2.toUInt32 >>> ((2 : Int32) &&& 31).toUInt32).toInt32) &&& (3 : Int32))), .val (.int c0), .val (.int c1), .val (.int c2), .val (.int c3), .val (.int qq), .val (.ref x_12), .unset, .unset, .unset] [(.int (8 : Int32)), (.int p2)])) tgt
        refine XS.iushr X12.here hx rfl (hb hby at_105) rfl ?_
        show Steps p.tables e below (T12.setTop (mkF m 106 #[.val (.int p1), .val (.int p2), .val (.int (1 : Int32)), .val (.int (((p2.toUInt32 >>> ((2 : Int32) &&& 31).toUInt32).toInt32) &&& (3 : Int32))), .val (.int c0), .val (.int c1), .val (.int c2), .val (.int c3), .val (.int qq), .val (.ref x_12), .unset, .unset, .unset] [(.int ((p2.toUInt32 >>> ((8 : Int32) &&& 31).toUInt32).toInt32))])) tgt
        refine XS.sipush X12.here hx rfl (hb hby at_106) ?_
        show Steps p.tables e below (T12.setTop (mkF m 109 #[.val (.int p1), .val (.int p2), .val (.int (1 : Int32)), .val (.int (((p2.toUInt32 >>> ((2 : Int32) &&& 31).toUInt32).toInt32) &&& (3 : Int32))), .val (.int c0), .val (.int c1), .val (.int c2), .val (.int c3), .val (.int qq), .val (.ref x_12), .unset, .unset, .unset] [(.int (255 : Int32)), (.int ((p2.toUInt32 >>> ((8 : Int32) &&& 31).toUInt32).toInt32))])) tgt
        refine XS.iand X12.here hx rfl (hb hby at_109) rfl ?_
        show Steps p.tables e below (T12.setTop (mkF m 110 #[.val (.int p1), .val (.int p2), .val (.int (1 : Int32)), .val (.int (((p2.toUInt32 >>> ((2 : Int32) &&& 31).toUInt32).toInt32) &&& (3 : Int32))), .val (.int c0), .val (.int c1), .val (.int c2), .val (.int c3), .val (.int qq), .val (.ref x_12), .unset, .unset, .unset] [(.int (((p2.toUInt32 >>> ((8 : Int32) &&& 31).toUInt32).toInt32) &&& (255 : Int32)))])) tgt
        refine XS.i2c X12.here hx rfl (hb hby at_110) rfl ?_
        exact kgo
      obtain ⟨_, _, ⟨T13, L13, k13, n13⟩, -, X13, ⟨Lc13, hQ13, l13, y13, z13⟩, st13⟩ := Jvm.LawKit.callS X12 hx (y := (⟨"java/lang/String", "valueOf", "(C)Ljava/lang/String;"⟩ : MethodName)) hown (mvT hZ (hw _ (List.mem_of_getElem? (i := 34) rfl))) (mvT hZ (hw _ (List.mem_of_getElem? (i := 35) rfl))) (mvT hZ (hw _ (List.mem_of_getElem? (i := 6) rfl))) (mvT hZ (hw _ (List.mem_of_getElem? (i := 36) rfl))) (by decide) (backOf (W := 0) (rm_valueOf l Z a0 hw [] wG1 wO2 wP5 wG3 wO4 wrG3 hstr hEL T12.heap n0 Ol12 (nar .char (((p2.toUInt32 >>> ((8 : Int32) &&& 31).toUInt32).toInt32) &&& (255 : Int32))) (own_lat255 ((p2.toUInt32 >>> ((8 : Int32) &&& 31).toUInt32).toInt32)).2) hZ (hw _ (List.mem_of_getElem? (i := 36) rfl)) (hw _ (List.mem_of_getElem? (i := 6) rfl)) (by decide) (by decide)) (g := (mkF m 111 #[.val (.int p1), .val (.int p2), .val (.int (1 : Int32)), .val (.int (((p2.toUInt32 >>> ((2 : Int32) &&& 31).toUInt32).toInt32) &&& (3 : Int32))), .val (.int c0), .val (.int c1), .val (.int c2), .val (.int c3), .val (.int qq), .val (.ref x_12), .unset, .unset, .unset] [(.int (nar .char (((p2.toUInt32 >>> ((8 : Int32) &&& 31).toUInt32).toInt32) &&& (255 : Int32))))])) rfl (by rw [hml]; rfl) (argsL := [(.int (nar .char (((p2.toUInt32 >>> ((8 : Int32) &&& 31).toUInt32).toInt32) &&& (255 : Int32))))]) (rest := []) (lenOf pd_44149578 rfl) rfl (by show 2 * 0 + _ ≤ _; exact Nat.le_of_eq rfl) (hb hby at_111) (fun _ _ => ⟨rfl, rfl, (by decide : 3 + 2 ≤ _), (by decide : 6 + 5 ≤ _)⟩)
      dsimp only [Pt.U, Pt.locs, Pt.cells, Pt.slots] at X13 l13 y13 z13 st13 hQ13
      subst l13 y13 z13
      obtain ⟨x_13, t_13, k_13, rfl, Nq13, Kq13, zq13_0, zq13_1, fq13_0, fq13_1, fq13_2, fq13_3⟩ := hQ13
      refine OwnGoes.step (T' := T13) (g' := (mkF m 114 #[.val (.int p1), .val (.int p2), .val (.int (1 : Int32)), .val (.int (((p2.toUInt32 >>> ((2 : Int32) &&& 31).toUInt32).toInt32) &&& (3 : Int32))), .val (.int c0), .val (.int c1), .val (.int c2), .val (.int c3), .val (.int qq), .val (.ref x_12), .unset, .unset, .unset] [(.ref x_13)])) st13 ?_
      have N13 := Fr.app N12 Nq13
      have ne_x_12_x_13 : x_12 ≠ x_13 := Nat.ne_of_lt (Nat.lt_of_lt_of_le fq12_0.lt zq13_0)
      have ne_t_12_x_13 : t_12 ≠ x_13 := Nat.ne_of_lt (Nat.lt_of_lt_of_le fq12_3.lt zq13_0)
      have g_x_13 : n0 ≤ x_13 := Nat.le_trans (Nat.le_trans Z0 K12.1) zq13_0
      have s_x_13 : h0.size ≤ x_13 := Nat.le_trans K12.1 zq13_0
      have ne_x_12_t_13 : x_12 ≠ t_13 := Nat.ne_of_lt (Nat.lt_of_lt_of_le fq12_0.lt zq13_1)
      have ne_t_12_t_13 : t_12 ≠ t_13 := Nat.ne_of_lt (Nat.lt_of_lt_of_le fq12_3.lt zq13_1)
      have g_t_13 : n0 ≤ t_13 := Nat.le_trans (Nat.le_trans Z0 K12.1) zq13_1
      have s_t_13 : h0.size ≤ t_13 := Nat.le_trans K12.1 zq13_1
      have F13_69 := fq12_0.keep Kq13
      have F13_70 := fq12_1.keep Kq13 nin0
      have F13_71 := fq12_2.keep Kq13 nin0
      have F13_72 := fq12_3.keep Kq13 nin0
      have Ol13 := Ol12.keep Kq13 all0
      have K13 : Keep h0 T13.heap ([] : List Addr) := K12.trans Kq13 all0
      have R13 := R12.trans (CHr.keep Kq13 sf0 R12.1)
      have hk13 := Nat.le_trans hk12 Kq13.1
      refine OwnGoes.step (T' := T13) (g' := (mkF m 116 #[.val (.int p1), .val (.int p2), .val (.int (1 : Int32)), .val (.int (((p2.toUInt32 >>> ((2 : Int32) &&& 31).toUInt32).toInt32) &&& (3 : Int32))), .val (.int c0), .val (.int c1), .val (.int c2), .val (.int c3), .val (.int qq), .val (.ref x_12), .val (.ref x_13), .unset, .unset] [])) (fun tgt kgo => ?_) ?_
      · show Steps p.tables e below (T13.setTop (mkF m 114 #[.val (.int p1), .val (.int p2), .val (.int (1 : Int32)), .val (.int (((p2.toUInt32 >>> ((2 : Int32) &&& 31).toUInt32).toInt32) &&& (3 : Int32))), .val (.int c0), .val (.int c1), .val (.int c2), .val (.int c3), .val (.int qq), .val (.ref x_12), .unset, .unset, .unset] [(.ref x_13)])) tgt
        refine XS.astore X13.here hx rfl (hb hby at_114) rfl rfl (l' := #[.val (.int p1), .val (.int p2), .val (.int (1 : Int32)), .val (.int (((p2.toUInt32 >>> ((2 : Int32) &&& 31).toUInt32).toInt32) &&& (3 : Int32))), .val (.int c0), .val (.int c1), .val (.int c2), .val (.int c3), .val (.int qq), .val (.ref x_12), .val (.ref x_13), .unset, .unset]) rfl ?_
        exact kgo
      obtain ⟨T14, h14, X14, e14, E14, A14, D14, U14, st14⟩ := newO X13 hx hZ hown (hw _ (List.mem_of_getElem? (i := 48) rfl)) (hw _ (List.mem_of_getElem? (i := 49) rfl)) (hw _ (List.mem_of_getElem? (i := 50) rfl)) rfl (g := (mkF m 116 #[.val (.int p1), .val (.int p2), .val (.int (1 : Int32)), .val (.int (((p2.toUInt32 >>> ((2 : Int32) &&& 31).toUInt32).toInt32) &&& (3 : Int32))), .val (.int c0), .val (.int c1), .val (.int c2), .val (.int c3), .val (.int qq), .val (.ref x_12), .val (.ref x_13), .unset, .unset] [])) rfl (hb hby at_116) (by decide) (by decide)
      obtain ⟨b14, g14⟩ : ∃ z, z = T13.heap.size := ⟨_, rfl⟩
      rw [← g14] at A14 D14 U14 st14
      refine OwnGoes.step (T' := T14) (g' := (mkF m 119 #[.val (.int p1), .val (.int p2), .val (.int (1 : Int32)), .val (.int (((p2.toUInt32 >>> ((2 : Int32) &&& 31).toUInt32).toInt32) &&& (3 : Int32))), .val (.int c0), .val (.int c1), .val (.int c2), .val (.int c3), .val (.int qq), .val (.ref x_12), .val (.ref x_13), .unset, .unset] [(.ref b14)])) st14 ?_
      have ne_x_12_b14 : x_12 ≠ b14 := Nat.ne_of_lt (Nat.lt_of_lt_of_le F13_69.lt (Nat.le_of_eq g14.symm))
      have ne_t_12_b14 : t_12 ≠ b14 := Nat.ne_of_lt (Nat.lt_of_lt_of_le F13_72.lt (Nat.le_of_eq g14.symm))
      have g_b14 : n0 ≤ b14 := Nat.le_trans (Nat.le_trans Z0 K13.1) (Nat.le_of_eq g14.symm)
      have s_b14 : h0.size ≤ b14 := Nat.le_trans K13.1 (Nat.le_of_eq g14.symm)
      have Sf14 : Safe Z consts_1 s.vm h14 b14 := Safe.ext E14 R13.1 (Safe.new (Nat.le_of_eq g14.symm))
      have F14_73 := F13_69.ext E14
      have F14_74 := F13_70.ext E14
      have F14_75 := F13_71.ext E14
      have F14_76 := F13_72.ext E14
      have Ol14 := Ol13.ext E14
      have K14 : Keep h0 h14 ([] : List Addr) := K13.ext E14
      have R14 := R13.trans (CHr.ext E14 R13.1)
      have hk14 := Nat.le_trans hk13 E14.1
      have F14_77 : Fld Z h14 b14 "com/example/fieldwright/fieldwright/FieldStructure" "tag" "Ljava/lang/String;" .null := D14 (Or.inr (hw _ (List.mem_of_getElem? (i := 67) rfl))) (ty := (.object "java/lang/String")) (by decide)
      have F14_78 : Fld Z h14 b14 "com/example/fieldwright/fieldwright/FieldStructure" "indicator1" "Ljava/lang/String;" .null := D14 (Or.inr (hw _ (List.mem_of_getElem? (i := 69) rfl))) (ty := (.object "java/lang/String")) (by decide)
      have F14_79 : Fld Z h14 b14 "com/example/fieldwright/fieldwright/FieldStructure" "indicator2" "Ljava/lang/String;" .null := D14 (Or.inr (hw _ (List.mem_of_getElem? (i := 71) rfl))) (ty := (.object "java/lang/String")) (by decide)
      have F14_80 : Fld Z h14 b14 "com/example/fieldwright/fieldwright/FieldStructure" "indicatorRule" "Ljava/lang/String;" .null := D14 (Or.inr (hw _ (List.mem_of_getElem? (i := 73) rfl))) (ty := (.object "java/lang/String")) (by decide)
      have F14_81 : Fld Z h14 b14 "com/example/fieldwright/fieldwright/FieldStructure" "subfields" "Ljava/lang/String;" .null := D14 (Or.inr (hw _ (List.mem_of_getElem? (i := 75) rfl))) (ty := (.object "java/lang/String")) (by decide)
      have F14_82 : Fld Z h14 b14 "com/example/fieldwright/fieldwright/FieldStructure" "repeatable" "Ljava/lang/String;" .null := D14 (Or.inr (hw _ (List.mem_of_getElem? (i := 77) rfl))) (ty := (.object "java/lang/String")) (by decide)
      refine OwnGoes.step (T' := T14) (g' := (mkF m 120 #[.val (.int p1), .val (.int p2), .val (.int (1 : Int32)), .val (.int (((p2.toUInt32 >>> ((2 : Int32) &&& 31).toUInt32).toInt32) &&& (3 : Int32))), .val (.int c0), .val (.int c1), .val (.int c2), .val (.int c3), .val (.int qq), .val (.ref x_12), .val (.ref x_13), .unset, .unset] [(.ref b14), (.ref b14)])) (fun tgt kgo => ?_) ?_
      · show Steps p.tables e below (T14.setTop (mkF m 119 #[.val (.int p1), .val (.int p2), .val (.int (1 : Int32)), .val (.int (((p2.toUInt32 >>> ((2 : Int32) &&& 31).toUInt32).toInt32) &&& (3 : Int32))), .val (.int c0), .val (.int c1), .val (.int c2), .val (.int c3), .val (.int qq), .val (.ref x_12), .val (.ref x_13), .unset, .unset] [(.ref b14)])) tgt
        refine XS.dup X14.here hx rfl (hb hby at_119) rfl rfl ?_
        exact kgo
      obtain ⟨b15, T15, h15, kk15, X15, e15, E15, hS15, hk15, hZ15, ho15, Rc15, Lt15, st15⟩ := ldcOH X14 hx hZ hown (hw _ (List.mem_of_getElem? (i := 51) rfl)) hstr e14 hS0 hk14 hEL R14.1 (g := (mkF m 120 #[.val (.int p1), .val (.int p2), .val (.int (1 : Int32)), .val (.int (((p2.toUInt32 >>> ((2 : Int32) &&& 31).toUInt32).toInt32) &&& (3 : Int32))), .val (.int c0), .val (.int c1), .val (.int c2), .val (.int c3), .val (.int qq), .val (.ref x_12), .val (.ref x_13), .unset, .unset] [(.ref b14), (.ref b14)])) rfl (hb hby at_120) (n := 12) (by decide) (by decide) (by decide) (by decide)
      refine OwnGoes.step (T' := T15) (g' := (mkF m 122 #[.val (.int p1), .val (.int p2), .val (.int (1 : Int32)), .val (.int (((p2.toUInt32 >>> ((2 : Int32) &&& 31).toUInt32).toInt32) &&& (3 : Int32))), .val (.int c0), .val (.int c1), .val (.int c2), .val (.int c3), .val (.int qq), .val (.ref x_12), .val (.ref x_13), .unset, .unset] [(.ref b15), (.ref b14), (.ref b14)])) st15 ?_
      have F15_83 := F14_73.ext E15
      have F15_84 := F14_74.ext E15
      have F15_85 := F14_75.ext E15
      have F15_86 := F14_76.ext E15
      have F15_87 := Rc15.safe A14.lt Sf14
      have F15_88 := A14.ext E15
      have F15_89 := F14_77.ext E15
      have F15_90 := F14_78.ext E15
      have F15_91 := F14_79.ext E15
      have F15_92 := F14_80.ext E15
      have F15_93 := F14_81.ext E15
      have F15_94 := F14_82.ext E15
      have Ol15 := Ol14.ext E15
      have K15 : Keep h0 h15 ([] : List Addr) := K14.ext E15
      have R15 := R14.trans Rc15
      obtain ⟨b16, T16, h16, kk16, X16, e16, E16, hS16, hk16, hZ16, ho16, Rc16, Lt16, st16⟩ := ldcOH X15 hx hZ15 ho15 (hw _ (List.mem_of_getElem? (i := 54) rfl)) hstr e15 hS15 hk15 hEL R15.1 (g := (mkF m 122 #[.val (.int p1), .val (.int p2), .val (.int (1 : Int32)), .val (.int (((p2.toUInt32 >>> ((2 : Int32) &&& 31).toUInt32).toInt32) &&& (3 : Int32))), .val (.int c0), .val (.int c1), .val (.int c2), .val (.int c3), .val (.int qq), .val (.ref x_12), .val (.ref x_13), .unset, .unset] [(.ref b15), (.ref b14), (.ref b14)])) rfl (hb hby at_122) (n := 4) (by decide) (by decide) (by decide) (by decide)
      refine OwnGoes.step (T' := T16) (g' := (mkF m 124 #[.val (.int p1), .val (.int p2), .val (.int (1 : Int32)), .val (.int (((p2.toUInt32 >>> ((2 : Int32) &&& 31).toUInt32).toInt32) &&& (3 : Int32))), .val (.int c0), .val (.int c1), .val (.int c2), .val (.int c3), .val (.int qq), .val (.ref x_12), .val (.ref x_13), .unset, .unset] [(.ref b16), (.ref b15), (.ref b14), (.ref b14)])) st16 ?_
      have F16_95 := F15_83.ext E16
      have F16_96 := F15_84.ext E16
      have F16_97 := F15_85.ext E16
      have F16_98 := F15_86.ext E16
      have F16_99 := Rc16.safe F15_88.lt F15_87
      have F16_100 := F15_88.ext E16
      have F16_101 := F15_89.ext E16
      have F16_102 := F15_90.ext E16
      have F16_103 := F15_91.ext E16
      have F16_104 := F15_92.ext E16
      have F16_105 := F15_93.ext E16
      have F16_106 := F15_94.ext E16
      have Ol16 := Ol15.ext E16
      have K16 : Keep h0 h16 ([] : List Addr) := K15.ext E16
      have R16 := R15.trans Rc16
      obtain ⟨b17, T17, h17, kk17, X17, e17, E17, hS17, hk17, hZ17, ho17, Rc17, Lt17, st17⟩ := ldcOH X16 hx hZ16 ho16 (hw _ (List.mem_of_getElem? (i := 55) rfl)) hstr e16 hS16 hk16 hEL R16.1 (g := (mkF m 124 #[.val (.int p1), .val (.int p2), .val (.int (1 : Int32)), .val (.int (((p2.toUInt32 >>> ((2 : Int32) &&& 31).toUInt32).toInt32) &&& (3 : Int32))), .val (.int c0), .val (.int c1), .val (.int c2), .val (.int c3), .val (.int qq), .val (.ref x_12), .val (.ref x_13), .unset, .unset] [(.ref b16), (.ref b15), (.ref b14), (.ref b14)])) rfl (hb hby at_124) (n := 8) (by decide) (by decide) (by decide) (by decide)
      refine OwnGoes.step (T' := T17) (g' := (mkF m 126 #[.val (.int p1), .val (.int p2), .val (.int (1 : Int32)), .val (.int (((p2.toUInt32 >>> ((2 : Int32) &&& 31).toUInt32).toInt32) &&& (3 : Int32))), .val (.int c0), .val (.int c1), .val (.int c2), .val (.int c3), .val (.int qq), .val (.ref x_12), .val (.ref x_13), .unset, .unset] [(.ref b17), (.ref b16), (.ref b15), (.ref b14), (.ref b14)])) st17 ?_
      have F17_107 := F16_95.ext E17
      have F17_108 := F16_96.ext E17
      have F17_109 := F16_97.ext E17
      have F17_110 := F16_98.ext E17
      have F17_111 := Rc17.safe F16_100.lt F16_99
      have F17_112 := F16_100.ext E17
      have F17_113 := F16_101.ext E17
      have F17_114 := F16_102.ext E17
      have F17_115 := F16_103.ext E17
      have F17_116 := F16_104.ext E17
      have F17_117 := F16_105.ext E17
      have F17_118 := F16_106.ext E17
      have Ol17 := Ol16.ext E17
      have K17 : Keep h0 h17 ([] : List Addr) := K16.ext E17
      have R17 := R16.trans Rc17
      obtain ⟨b18, T18, h18, kk18, X18, e18, E18, hS18, hk18, hZ18, ho18, Rc18, Lt18, st18⟩ := ldcOH X17 hx hZ17 ho17 (hw _ (List.mem_of_getElem? (i := 56) rfl)) hstr e17 hS17 hk17 hEL R17.1 (g := (mkF m 126 #[.val (.int p1), .val (.int p2), .val (.int (1 : Int32)), .val (.int (((p2.toUInt32 >>> ((2 : Int32) &&& 31).toUInt32).toInt32) &&& (3 : Int32))), .val (.int c0), .val (.int c1), .val (.int c2), .val (.int c3), .val (.int qq), .val (.ref x_12), .val (.ref x_13), .unset, .unset] [(.ref b17), (.ref b16), (.ref b15), (.ref b14), (.ref b14)])) rfl (hb hby at_126) (n := 16) (by decide) (by decide) (by decide) (by decide)
      refine OwnGoes.step (T' := T18) (g' := (mkF m 128 #[.val (.int p1), .val (.int p2), .val (.int (1 : Int32)), .val (.int (((p2.toUInt32 >>> ((2 : Int32) &&& 31).toUInt32).toInt32) &&& (3 : Int32))), .val (.int c0), .val (.int c1), .val (.int c2), .val (.int c3), .val (.int qq), .val (.ref x_12), .val (.ref x_13), .unset, .unset] [(.ref b18), (.ref b17), (.ref b16), (.ref b15), (.ref b14), (.ref b14)])) st18 ?_
      have F18_119 := F17_107.ext E18
      have F18_120 := F17_108.ext E18
      have F18_121 := F17_109.ext E18
      have F18_122 := F17_110.ext E18
      have F18_123 := Rc18.safe F17_112.lt F17_111
      have F18_124 := F17_112.ext E18
      have F18_125 := F17_113.ext E18
      have F18_126 := F17_114.ext E18
      have F18_127 := F17_115.ext E18
      have F18_128 := F17_116.ext E18
      have F18_129 := F17_117.ext E18
      have F18_130 := F17_118.ext E18
      have Ol18 := Ol17.ext E18
      have K18 : Keep h0 h18 ([] : List Addr) := K17.ext E18
      have R18 := R17.trans Rc18
      refine OwnGoes.step (T' := T18) (g' := (mkF m 132 #[.val (.int p1), .val (.int p2), .val (.int (1 : Int32)), .val (.int (((p2.toUInt32 >>> ((2 : Int32) &&& 31).toUInt32).toInt32) &&& (3 : Int32))), .val (.int c0), .val (.int c1), .val (.int c2), .val (.int c3), .val (.int qq), .val (.ref x_12), .val (.ref x_13), .unset, .unset] [(.ref x_13), (.ref x_12), (.ref b18), (.ref b17), (.ref b16), (.ref b15), (.ref b14), (.ref b14)])) (fun tgt kgo => ?_) ?_
      · show Steps p.tables e below (T18.setTop (mkF m 128 #[.val (.int p1), .val (.int p2), .val (.int (1 : Int32)), .val (.int (((p2.toUInt32 >>> ((2 : Int32) &&& 31).toUInt32).toInt32) &&& (3 : Int32))), .val (.int c0), .val (.int c1), .val (.int c2), .val (.int c3), .val (.int qq), .val (.ref x_12), .val (.ref x_13), .unset, .unset] [(.ref b18), (.ref b17), (.ref b16), (.ref b15), (.ref b14), (.ref b14)])) tgt
        refine XS.aload X18.here hx rfl (hb hby at_128) rfl rfl ?_
        show Steps p.tables e below (T18.setTop (mkF m 130 #[.val (.int p1), .val (.int p2), .val (.int (1 : Int32)), .val (.int (((p2.toUInt32 >>> ((2 : Int32) &&& 31).toUInt32).toInt32) &&& (3 : Int32))), .val (.int c0), .val (.int c1), .val (.int c2), .val (.int c3), .val (.int qq), .val (.ref x_12), .val (.ref x_13), .unset, .unset] [(.ref x_12), (.ref b18), (.ref b17), (.ref b16), (.ref b15), (.ref b14), (.ref b14)])) tgt
        refine XS.aload X18.here hx rfl (hb hby at_130) rfl rfl ?_
        exact kgo
      obtain ⟨_, _, ⟨T19, L19, k19, n19⟩, -, X19, ⟨Lc19, hQ19, l19, y19, z19⟩, st19⟩ := X18.specialBack hx (y := (⟨"com/example/fieldwright/fieldwright/FieldStructure", "<init>", "(Ljava/lang/String;Ljava/lang/String;Ljava/lang/String;Ljava/lang/String;Ljava/lang/String;Ljava/lang/String;)V"⟩ : MethodName)) rfl ho18 (mvT hZ18 (hw _ (List.mem_of_getElem? (i := 57) rfl))) (mvT hZ18 (hw _ (List.mem_of_getElem? (i := 58) rfl))) (mvT hZ18 (hw _ (List.mem_of_getElem? (i := 59) rfl))) (by decide) (backOf (W := 1) (rm_fini l Z a0 hw [] wG1 wO2 wP5 wG3 wO4 wrG3 hstr hEL h18 n0 Ol18 b14 b15 b16 b17 b18 x_12 x_13 F18_124 F18_125 F18_126 F18_127 F18_128 F18_129 F18_130 g_b14) hZ18 (hw _ (List.mem_of_getElem? (i := 59) rfl)) (hw _ (List.mem_of_getElem? (i := 50) rfl)) (by decide) (by decide)) (g := (mkF m 132 #[.val (.int p1), .val (.int p2), .val (.int (1 : Int32)), .val (.int (((p2.toUInt32 >>> ((2 : Int32) &&& 31).toUInt32).toInt32) &&& (3 : Int32))), .val (.int c0), .val (.int c1), .val (.int c2), .val (.int c3), .val (.int qq), .val (.ref x_12), .val (.ref x_13), .unset, .unset] [(.ref x_13), (.ref x_12), (.ref b18), (.ref b17), (.ref b16), (.ref b15), (.ref b14), (.ref b14)])) rfl (by rw [hml]; rfl) (Steps.refl _) (a := b14) (argsL := [(.ref b15), (.ref b16), (.ref b17), (.ref b18), (.ref x_12), (.ref x_13)]) (rest := [(.ref b14)]) (lenOf pd_60881529 rfl) rfl (by show 2 * 0 + _ ≤ _; exact Nat.le_of_eq rfl) (hb hby at_132) (fun _ _ => ⟨rfl, e18, (by decide : 14 + 0 ≤ _), (by decide : 73 + 0 ≤ _)⟩)
      dsimp only [Pt.U, Pt.locs, Pt.cells, Pt.slots] at X19 l19 y19 z19 st19 hQ19
      subst l19 y19 z19
      obtain ⟨rfl, Nq19, Kq19, fq19_0, fq19_1⟩ := hQ19
      refine OwnGoes.tr (T' := T19) (g' := (mkF m 135 #[.val (.int p1), .val (.int p2), .val (.int (1 : Int32)), .val (.int (((p2.toUInt32 >>> ((2 : Int32) &&& 31).toUInt32).toInt32) &&& (3 : Int32))), .val (.int c0), .val (.int c1), .val (.int c2), .val (.int c3), .val (.int qq), .val (.ref x_12), .val (.ref x_13), .unset, .unset] [(.ref b14)])) st19 ?_
      have N19 := Fr.app N13 Nq19
      have F19_131 := F18_119.keep Kq19
      have F19_132 := F18_120.keep Kq19 (ninS ne_x_12_b14 nin0)
      have F19_133 := F18_121.keep Kq19 (ninS ne_x_12_b14 nin0)
      have F19_134 := F18_122.keep Kq19 (ninS ne_t_12_b14 nin0)
      have F19_135 := Safe.keep Kq19 (sfS F18_123 sf0) R18.1 F18_123
      have F19_136 := F18_124.keep Kq19
      have Ol19 := Ol18.keep Kq19 (allS g_b14 all0)
      have K19 : Keep h0 T19.heap ([] : List Addr) := K18.trans Kq19 (allS (Or.inr s_b14) all0)
      have R19 := R18.trans (CHr.keep Kq19 (sfS F18_123 sf0) R18.1)
      have hk19 := Nat.le_trans hk18 Kq19.1
      refine OwnGoes.step (T' := T19) (g' := (mkF m 146 #[.val (.int p1), .val (.int p2), .val (.int (1 : Int32)), .val (.int (((p2.toUInt32 >>> ((2 : Int32) &&& 31).toUInt32).toInt32) &&& (3 : Int32))), .val (.int c0), .val (.int c1), .val (.int c2), .val (.int c3), .val (.int qq), .val (.ref x_12), .val (.ref x_13), .val (.ref b14), .unset] [(.int c0), (.int qq)])) (fun tgt kgo => ?_) ?_
      · show Steps p.tables e below (T19.setTop (mkF m 135 #[.val (.int p1), .val (.int p2), .val (.int (1 : Int32)), .val (.int (((p2.toUInt32 >>> ((2 : Int32) &&& 31).toUInt32).toInt32) &&& (3 : Int32))), .val (.int c0), .val (.int c1), .val (.int c2), .val (.int c3), .val (.int qq), .val (.ref x_12), .val (.ref x_13), .unset, .unset] [(.ref b14)])) tgt
        refine XS.astore X19.here hx rfl (hb hby at_135) rfl rfl (l' := #[.val (.int p1), .val (.int p2), .val (.int (1 : Int32)), .val (.int (((p2.toUInt32 >>> ((2 : Int32) &&& 31).toUInt32).toInt32) &&& (3 : Int32))), .val (.int c0), .val (.int c1), .val (.int c2), .val (.int c3), .val (.int qq), .val (.ref x_12), .val (.ref x_13), .val (.ref b14), .unset]) rfl ?_
        show Steps p.tables e below (T19.setTop (mkF m 137 #[.val (.int p1), .val (.int p2), .val (.int (1 : Int32)), .val (.int (((p2.toUInt32 >>> ((2 : Int32) &&& 31).toUInt32).toInt32) &&& (3 : Int32))), .val (.int c0), .val (.int c1), .val (.int c2), .val (.int c3), .val (.int qq), .val (.ref x_12), .val (.ref x_13), .val (.ref b14), .unset] [])) tgt
        refine XS.iloadN X19.here hx rfl (hb hby at_137) rfl ?_
        show Steps p.tables e below (T19.setTop (mkF m 138 #[.val (.int p1), .val (.int p2), .val (.int (1 : Int32)), .val (.int (((p2.toUInt32 >>> ((2 : Int32) &&& 31).toUInt32).toInt32) &&& (3 : Int32))), .val (.int c0), .val (.int c1), .val (.int c2), .val (.int c3), .val (.int qq), .val (.ref x_12), .val (.ref x_13), .val (.ref b14), .unset] [(.int (1 : Int32))])) tgt
        refine XS.iconst X19.here hx rfl (hb hby at_138) ?_
        show Steps p.tables e below (T19.setTop (mkF m 139 #[.val (.int p1), .val (.int p2), .val (.int (1 : Int32)), .val (.int (((p2.toUInt32 >>> ((2 : Int32) &&& 31).toUInt32).toInt32) &&& (3 : Int32))), .val (.int c0), .val (.int c1), .val (.int c2), .val (.int c3), .val (.int qq), .val (.ref x_12), .val (.ref x_13), .val (.ref b14), .unset] [(.int (1 : Int32)), (.int (1 : Int32))])) tgt
        refine XS.icmpNo X19.here hx rfl (hb hby at_139) rfl (flt (by decide : ¬ ((1 : Int32) < (1 : Int32)))).1 ?_
        show Steps p.tables e below (T19.setTop (mkF m 142 #[.val (.int p1), .val (.int p2), .val (.int (1 : Int32)), .val (.int (((p2.toUInt32 >>> ((2 : Int32) &&& 31).toUInt32).toInt32) &&& (3 : Int32))), .val (.int c0), .val (.int c1), .val (.int c2), .val (.int c3), .val (.int qq), .val (.ref x_12), .val (.ref x_13), .val (.ref b14), .unset] [])) tgt
        refine XS.iload X19.here hx rfl (hb hby at_142) rfl ?_
        show Steps p.tables e below (T19.setTop (mkF m 144 #[.val (.int p1), .val (.int p2), .val (.int (1 : Int32)), .val (.int (((p2.toUInt32 >>> ((2 : Int32) &&& 31).toUInt32).toInt32) &&& (3 : Int32))), .val (.int c0), .val (.int c1), .val (.int c2), .val (.int c3), .val (.int qq), .val (.ref x_12), .val (.ref x_13), .val (.ref b14), .unset] [(.int qq)])) tgt
        refine XS.iload X19.here hx rfl (hb hby at_144) rfl ?_
        exact kgo
      by_cases cc20 : qq = c0
      · skip
        refine OwnGoes.step (T' := T19) (g' := (mkF m 184 #[.val (.int p1), .val (.int p2), .val (.int (1 : Int32)), .val (.int (((p2.toUInt32 >>> ((2 : Int32) &&& 31).toUInt32).toInt32) &&& (3 : Int32))), .val (.int c0), .val (.int c1), .val (.int c2), .val (.int c3), .val (.int qq), .val (.ref x_12), .val (.ref x_13), .val (.ref b14), .val (.int (1 : Int32))] [(.int qq), (.ref b14)])) (fun tgt kgo => ?_) ?_
        · show Steps p.tables e below (T19.setTop (mkF m 146 #[.val (.int p1), .val (.int p2), .val (.int (1 : Int32)), .val (.int (((p2.toUInt32 >>> ((2 : Int32) &&& 31).toUInt32).toInt32) &&& (3 : Int32))), .val (.int c0), .val (.int c1), .val (.int c2), .val (.int c3), .val (.int qq), .val (.ref x_12), .val (.ref x_13), .val (.ref b14), .unset] [(.int c0), (.int qq)])) tgt
          refine XS.icmpYes X19.here hx rfl (pc0 := 146) (pc' := 173) rfl (hb hby at_146) rfl (teq cc20).1 (by decide) (by decide) ?_
          show Steps p.tables e below (T19.setTop (mkF m 173 #[.val (.int p1), .val (.int p2), .val (.int (1 : Int32)), .val (.int (((p2.toUInt32 >>> ((2 : Int32) &&& 31).toUInt32).toInt32) &&& (3 : Int32))), .val (.int c0), .val (.int c1), .val (.int c2), .val (.int c3), .val (.int qq), .val (.ref x_12), .val (.ref x_13), .val (.ref b14), .unset] [])) tgt
          refine XS.iconst X19.here hx rfl (hb hby at_173) ?_
          show Steps p.tables e below (T19.setTop (mkF m 174 #[.val (.int p1), .val (.int p2), .val (.int (1 : Int32)), .val (.int (((p2.toUInt32 >>> ((2 : Int32) &&& 31).toUInt32).toInt32) &&& (3 : Int32))), .val (.int c0), .val (.int c1), .val (.int c2), .val (.int c3), .val (.int qq), .val (.ref x_12), .val (.ref x_13), .val (.ref b14), .unset] [(.int (1 : Int32))])) tgt
          refine XS.goto X19.here hx rfl (pc0 := 174) (pc' := 178) rfl (hb hby at_174) (by decide) (by decide) ?_
          show Steps p.tables e below (T19.setTop (mkF m 178 #[.val (.int p1), .val (.int p2), .val (.int (1 : Int32)), .val (.int (((p2.toUInt32 >>> ((2 : Int32) &&& 31).toUInt32).toInt32) &&& (3 : Int32))), .val (.int c0), .val (.int c1), .val (.int c2), .val (.int c3), .val (.int qq), .val (.ref x_12), .val (.ref x_13), .val (.ref b14), .unset] [(.int (1 : Int32))])) tgt
          refine XS.istore X19.here hx rfl (hb hby at_178) rfl (l' := #[.val (.int p1), .val (.int p2), .val (.int (1 : Int32)), .val (.int (((p2.toUInt32 >>> ((2 : Int32) &&& 31).toUInt32).toInt32) &&& (3 : Int32))), .val (.int c0), .val (.int c1), .val (.int c2), .val (.int c3), .val (.int qq), .val (.ref x_12), .val (.ref x_13), .val (.ref b14), .val (.int (1 : Int32))]) rfl ?_
          show Steps p.tables e below (T19.setTop (mkF m 180 #[.val (.int p1), .val (.int p2), .val (.int (1 : Int32)), .val (.int (((p2.toUInt32 >>> ((2 : Int32) &&& 31).toUInt32).toInt32) &&& (3 : Int32))), .val (.int c0), .val (.int c1), .val (.int c2), .val (.int c3), .val (.int qq), .val (.ref x_12), .val (.ref x_13), .val (.ref b14), .val (.int (1 : Int32))] [])) tgt
          refine XS.aload X19.here hx rfl (hb hby at_180) rfl rfl ?_
          show Steps p.tables e below (T19.setTop (mkF m 182 #[.val (.int p1), .val (.int p2), .val (.int (1 : Int32)), .val (.int (((p2.toUInt32 >>> ((2 : Int32) &&& 31).toUInt32).toInt32) &&& (3 : Int32))), .val (.int c0), .val (.int c1), .val (.int c2), .val (.int c3), .val (.int qq), .val (.ref x_12), .val (.ref x_13), .val (.ref b14), .val (.int (1 : Int32))] [(.ref b14)])) tgt
          refine XS.iload X19.here hx rfl (hb hby at_182) rfl ?_
          exact kgo
        obtain ⟨cq21, kq21, q21a, q21b, q21c⟩ := isOf (s := (s.setVm T18.vm)) hZ18 rfl fq19_0
        obtain ⟨_, _, ⟨T21, L21, k21, n21⟩, -, X21, ⟨Lc21, hQ21, l21, y21, z21⟩, st21⟩ := X19.virtualBack hx (y := (⟨"com/example/fieldwright/fieldwright/FieldStructure", "allows", "(C)Z"⟩ : MethodName)) (z := (⟨"com/example/fieldwright/fieldwright/FieldStructure", "allows", "(C)Z"⟩ : MethodName)) ho18 (mvT hZ18 (hw _ (List.mem_of_getElem? (i := 78) rfl))) (mvT hZ18 (hw _ (List.mem_of_getElem? (i := 79) rfl))) (notFace_of_selects (args := #[]) (mvT hZ18 (hw _ (List.mem_of_getElem? (i := 81) rfl)))) (mvT hZ18 (hw _ (List.mem_of_getElem? (i := 81) rfl))) (mvT hZ18 (hw _ (List.mem_of_getElem? (i := 80) rfl))) (by decide) (backOf (W := 0) (rm_alw1 l Z a0 hw [] wG1 wO2 wP5 wG3 wO4 wrG3 hstr hEL T19.heap n0 Ol19 b14 x_12 t_12 k_12 qq c0 fq19_1 F19_131 F19_132 F19_133 F19_134 hz1 hl_c0) hZ18 (hw _ (List.mem_of_getElem? (i := 82) rfl)) (hw _ (List.mem_of_getElem? (i := 50) rfl)) (by decide) (by decide)) q21a q21c (g := (mkF m 184 #[.val (.int p1), .val (.int p2), .val (.int (1 : Int32)), .val (.int (((p2.toUInt32 >>> ((2 : Int32) &&& 31).toUInt32).toInt32) &&& (3 : Int32))), .val (.int c0), .val (.int c1), .val (.int c2), .val (.int c3), .val (.int qq), .val (.ref x_12), .val (.ref x_13), .val (.ref b14), .val (.int (1 : Int32))] [(.int qq), (.ref b14)])) rfl (by rw [hml]; rfl) (Steps.refl _) (argsL := [(.int qq)]) (rest := []) (lenOf pd_92619605 rfl) rfl (by show 2 * 0 + _ ≤ _; exact Nat.le_of_eq rfl) (hb hby at_184) (fun _ _ => ⟨rfl, rfl, (by decide : 14 + 0 ≤ _), (by decide : 73 + 0 ≤ _)⟩)
        dsimp only [Pt.U, Pt.locs, Pt.cells, Pt.slots] at X21 l21 y21 z21 st21 hQ21
        subst l21 y21 z21
        obtain ⟨r_21, rfl, Nq21, eq21, pq21_0⟩ := hQ21
        refine OwnGoes.tr (T' := T21) (g' := (mkF m 187 #[.val (.int p1), .val (.int p2), .val (.int (1 : Int32)), .val (.int (((p2.toUInt32 >>> ((2 : Int32) &&& 31).toUInt32).toInt32) &&& (3 : Int32))), .val (.int c0), .val (.int c1), .val (.int c2), .val (.int c3), .val (.int qq), .val (.ref x_12), .val (.ref x_13), .val (.ref b14), .val (.int (1 : Int32))] [(.int r_21)])) st21 ?_
        have N21 := Fr.app N19 Nq21
        refine OwnGoes.step (T' := T21) (g' := (mkF m 189 #[.val (.int p1), .val (.int p2), .val (.int (1 : Int32)), .val (.int (((p2.toUInt32 >>> ((2 : Int32) &&& 31).toUInt32).toInt32) &&& (3 : Int32))), .val (.int c0), .val (.int c1), .val (.int c2), .val (.int c3), .val (.int qq), .val (.ref x_12), .val (.ref x_13), .val (.ref b14), .val (.int (1 : Int32))] [(.int (1 : Int32)), (.int r_21)])) (fun tgt kgo => ?_) ?_
        · show Steps p.tables e below (T21.setTop (mkF m 187 #[.val (.int p1), .val (.int p2), .val (.int (1 : Int32)), .val (.int (((p2.toUInt32 >>> ((2 : Int32) &&& 31).toUInt32).toInt32) &&& (3 : Int32))), .val (.int c0), .val (.int c1), .val (.int c2), .val (.int c3), .val (.int qq), .val (.ref x_12), .val (.ref x_13), .val (.ref b14), .val (.int (1 : Int32))] [(.int r_21)])) tgt
          refine XS.iload X21.here hx rfl (hb hby at_187) rfl ?_
          exact kgo
        rcases pq21_0 with ⟨hw1, rfl⟩ | ⟨hw1, rfl⟩
        · skip
          refine OwnGoes.step (T' := T21) (g' := (mkF m 197 #[.val (.int p1), .val (.int p2), .val (.int (1 : Int32)), .val (.int (((p2.toUInt32 >>> ((2 : Int32) &&& 31).toUInt32).toInt32) &&& (3 : Int32))), .val (.int c0), .val (.int c1), .val (.int c2), .val (.int c3), .val (.int qq), .val (.ref x_12), .val (.ref x_13), .val (.ref b14), .val (.int (1 : Int32))] [(.int (1 : Int32))])) (fun tgt kgo => ?_) ?_
          · show Steps p.tables e below (T21.setTop (mkF m 189 #[.val (.int p1), .val (.int p2), .val (.int (1 : Int32)), .val (.int (((p2.toUInt32 >>> ((2 : Int32) &&& 31).toUInt32).toInt32) &&& (3 : Int32))), .val (.int c0), .val (.int c1), .val (.int c2), .val (.int c3), .val (.int qq), .val (.ref x_12), .val (.ref x_13), .val (.ref b14), .val (.int (1 : Int32))] [(.int (1 : Int32)), (.int 1)])) tgt
            refine XS.icmpNo X21.here hx rfl (hb hby at_189) rfl (teq rfl).2 ?_
            show Steps p.tables e below (T21.setTop (mkF m 192 #[.val (.int p1), .val (.int p2), .val (.int (1 : Int32)), .val (.int (((p2.toUInt32 >>> ((2 : Int32) &&& 31).toUInt32).toInt32) &&& (3 : Int32))), .val (.int c0), .val (.int c1), .val (.int c2), .val (.int c3), .val (.int qq), .val (.ref x_12), .val (.ref x_13), .val (.ref b14), .val (.int (1 : Int32))] [])) tgt
            refine XS.iconst X21.here hx rfl (hb hby at_192) ?_
            show Steps p.tables e below (T21.setTop (mkF m 193 #[.val (.int p1), .val (.int p2), .val (.int (1 : Int32)), .val (.int (((p2.toUInt32 >>> ((2 : Int32) &&& 31).toUInt32).toInt32) &&& (3 : Int32))), .val (.int c0), .val (.int c1), .val (.int c2), .val (.int c3), .val (.int qq), .val (.ref x_12), .val (.ref x_13), .val (.ref b14), .val (.int (1 : Int32))] [(.int (1 : Int32))])) tgt
            refine XS.goto X21.here hx rfl (pc0 := 193) (pc' := 197) rfl (hb hby at_193) (by decide) (by decide) ?_
            exact kgo
          refine own_leaveW (Z := Z) (EL := consts_1) X21 hS18 (eq21 ▸ hk19) hlk (v := some (.int (1 : Int32))) (fun h => by rw [Bd.returns] at h; cases h) (fun fs hr => retN X21 hx (t := .boolean) Bd.returns (by simp) (hb hby at_197) (by rw [(by decide : nar .boolean (1 : Int32) = (1 : Int32))]; exact hr)) (by decide) (by decide) ?_ ?_
          · rw [hh, eq21]
            exact R19.trans (CHv.at X21 hZ18 hEL R19.1)
          show Q_law Z p1 p2 h0 n0 _ T21.heap _
          rw [eq21]
          exact ⟨rfl, N21⟩
        · skip
          exact absurd cc20 hw1
      · skip
        refine OwnGoes.step (T' := T19) (g' := (mkF m 184 #[.val (.int p1), .val (.int p2), .val (.int (1 : Int32)), .val (.int (((p2.toUInt32 >>> ((2 : Int32) &&& 31).toUInt32).toInt32) &&& (3 : Int32))), .val (.int c0), .val (.int c1), .val (.int c2), .val (.int c3), .val (.int qq), .val (.ref x_12), .val (.ref x_13), .val (.ref b14), .val (.int (0 : Int32))] [(.int qq), (.ref b14)])) (fun tgt kgo => ?_) ?_
        · show Steps p.tables e below (T19.setTop (mkF m 146 #[.val (.int p1), .val (.int p2), .val (.int (1 : Int32)), .val (.int (((p2.toUInt32 >>> ((2 : Int32) &&& 31).toUInt32).toInt32) &&& (3 : Int32))), .val (.int c0), .val (.int c1), .val (.int c2), .val (.int c3), .val (.int qq), .val (.ref x_12), .val (.ref x_13), .val (.ref b14), .unset] [(.int c0), (.int qq)])) tgt
          refine XS.icmpNo X19.here hx rfl (hb hby at_146) rfl (feq cc20).1 ?_
          show Steps p.tables e below (T19.setTop (mkF m 149 #[.val (.int p1), .val (.int p2), .val (.int (1 : Int32)), .val (.int (((p2.toUInt32 >>> ((2 : Int32) &&& 31).toUInt32).toInt32) &&& (3 : Int32))), .val (.int c0), .val (.int c1), .val (.int c2), .val (.int c3), .val (.int qq), .val (.ref x_12), .val (.ref x_13), .val (.ref b14), .unset] [])) tgt
          refine XS.iloadN X19.here hx rfl (hb hby at_149) rfl ?_
          show Steps p.tables e below (T19.setTop (mkF m 150 #[.val (.int p1), .val (.int p2), .val (.int (1 : Int32)), .val (.int (((p2.toUInt32 >>> ((2 : Int32) &&& 31).toUInt32).toInt32) &&& (3 : Int32))), .val (.int c0), .val (.int c1), .val (.int c2), .val (.int c3), .val (.int qq), .val (.ref x_12), .val (.ref x_13), .val (.ref b14), .unset] [(.int (1 : Int32))])) tgt
          refine XS.iconst X19.here hx rfl (hb hby at_150) ?_
          show Steps p.tables e below (T19.setTop (mkF m 151 #[.val (.int p1), .val (.int p2), .val (.int (1 : Int32)), .val (.int (((p2.toUInt32 >>> ((2 : Int32) &&& 31).toUInt32).toInt32) &&& (3 : Int32))), .val (.int c0), .val (.int c1), .val (.int c2), .val (.int c3), .val (.int qq), .val (.ref x_12), .val (.ref x_13), .val (.ref b14), .unset] [(.int (2 : Int32)), (.int (1 : Int32))])) tgt
          refine XS.icmpYes X19.here hx rfl (pc0 := 151) (pc' := 161) rfl (hb hby at_151) rfl (tlt (by decide : (1 : Int32) < (2 : Int32))).1 (by decide) (by decide) ?_
          show Steps p.tables e below (T19.setTop (mkF m 161 #[.val (.int p1), .val (.int p2), .val (.int (1 : Int32)), .val (.int (((p2.toUInt32 >>> ((2 : Int32) &&& 31).toUInt32).toInt32) &&& (3 : Int32))), .val (.int c0), .val (.int c1), .val (.int c2), .val (.int c3), .val (.int qq), .val (.ref x_12), .val (.ref x_13), .val (.ref b14), .unset] [])) tgt
          refine XS.iloadN X19.here hx rfl (hb hby at_161) rfl ?_
          show Steps p.tables e below (T19.setTop (mkF m 162 #[.val (.int p1), .val (.int p2), .val (.int (1 : Int32)), .val (.int (((p2.toUInt32 >>> ((2 : Int32) &&& 31).toUInt32).toInt32) &&& (3 : Int32))), .val (.int c0), .val (.int c1), .val (.int c2), .val (.int c3), .val (.int qq), .val (.ref x_12), .val (.ref x_13), .val (.ref b14), .unset] [(.int (1 : Int32))])) tgt
          refine XS.iconst X19.here hx rfl (hb hby at_162) ?_
          show Steps p.tables e below (T19.setTop (mkF m 163 #[.val (.int p1), .val (.int p2), .val (.int (1 : Int32)), .val (.int (((p2.toUInt32 >>> ((2 : Int32) &&& 31).toUInt32).toInt32) &&& (3 : Int32))), .val (.int c0), .val (.int c1), .val (.int c2), .val (.int c3), .val (.int qq), .val (.ref x_12), .val (.ref x_13), .val (.ref b14), .unset] [(.int (3 : Int32)), (.int (1 : Int32))])) tgt
          refine XS.icmpYes X19.here hx rfl (pc0 := 163) (pc' := 177) rfl (hb hby at_163) rfl (tlt (by decide : (1 : Int32) < (3 : Int32))).1 (by decide) (by decide) ?_
          show Steps p.tables e below (T19.setTop (mkF m 177 #[.val (.int p1), .val (.int p2), .val (.int (1 : Int32)), .val (.int (((p2.toUInt32 >>> ((2 : Int32) &&& 31).toUInt32).toInt32) &&& (3 : Int32))), .val (.int c0), .val (.int c1), .val (.int c2), .val (.int c3), .val (.int qq), .val (.ref x_12), .val (.ref x_13), .val (.ref b14), .unset] [])) tgt
          refine XS.iconst X19.here hx rfl (hb hby at_177) ?_
          show Steps p.tables e below (T19.setTop (mkF m 178 #[.val (.int p1), .val (.int p2), .val (.int (1 : Int32)), .val (.int (((p2.toUInt32 >>> ((2 : Int32) &&& 31).toUInt32).toInt32) &&& (3 : Int32))), .val (.int c0), .val (.int c1), .val (.int c2), .val (.int c3), .val (.int qq), .val (.ref x_12), .val (.ref x_13), .val (.ref b14), .unset] [(.int (0 : Int32))])) tgt
          refine XS.istore X19.here hx rfl (hb hby at_178) rfl (l' := #[.val (.int p1), .val (.int p2), .val (.int (1 : Int32)), .val (.int (((p2.toUInt32 >>> ((2 : Int32) &&& 31).toUInt32).toInt32) &&& (3 : Int32))), .val (.int c0), .val (.int c1), .val (.int c2), .val (.int c3), .val (.int qq), .val (.ref x_12), .val (.ref x_13), .val (.ref b14), .val (.int (0 : Int32))]) rfl ?_
          show Steps p.tables e below (T19.setTop (mkF m 180 #[.val (.int p1), .val (.int p2), .val (.int (1 : Int32)), .val (.int (((p2.toUInt32 >>> ((2 : Int32) &&& 31).toUInt32).toInt32) &&& (3 : Int32))), .val (.int c0), .val (.int c1), .val (.int c2), .val (.int c3), .val (.int qq), .val (.ref x_12), .val (.ref x_13), .val (.ref b14), .val (.int (0 : Int32))] [])) tgt
          refine XS.aload X19.here hx rfl (hb hby at_180) rfl rfl ?_
          show Steps p.tables e below (T19.setTop (mkF m 182 #[.val (.int p1), .val (.int p2), .val (.int (1 : Int32)), .val (.int (((p2.toUInt32 >>> ((2 : Int32) &&& 31).toUInt32).toInt32) &&& (3 : Int32))), .val (.int c0), .val (.int c1), .val (.int c2), .val (.int c3), .val (.int qq), .val (.ref x_12), .val (.ref x_13), .val (.ref b14), .val (.int (0 : Int32))] [(.ref b14)])) tgt
          refine XS.iload X19.here hx rfl (hb hby at_182) rfl ?_
          exact kgo
        obtain ⟨cq23, kq23, q23a, q23b, q23c⟩ := isOf (s := (s.setVm T18.vm)) hZ18 rfl fq19_0
        obtain ⟨_, _, ⟨T23, L23, k23, n23⟩, -, X23, ⟨Lc23, hQ23, l23, y23, z23⟩, st23⟩ := X19.virtualBack hx (y := (⟨"com/example/fieldwright/fieldwright/FieldStructure", "allows", "(C)Z"⟩ : MethodName)) (z := (⟨"com/example/fieldwright/fieldwright/FieldStructure", "allows", "(C)Z"⟩ : MethodName)) ho18 (mvT hZ18 (hw _ (List.mem_of_getElem? (i := 78) rfl))) (mvT hZ18 (hw _ (List.mem_of_getElem? (i := 79) rfl))) (notFace_of_selects (args := #[]) (mvT hZ18 (hw _ (List.mem_of_getElem? (i := 81) rfl)))) (mvT hZ18 (hw _ (List.mem_of_getElem? (i := 81) rfl))) (mvT hZ18 (hw _ (List.mem_of_getElem? (i := 80) rfl))) (by decide) (backOf (W := 0) (rm_alw1 l Z a0 hw [] wG1 wO2 wP5 wG3 wO4 wrG3 hstr hEL T19.heap n0 Ol19 b14 x_12 t_12 k_12 qq c0 fq19_1 F19_131 F19_132 F19_133 F19_134 hz1 hl_c0) hZ18 (hw _ (List.mem_of_getElem? (i := 82) rfl)) (hw _ (List.mem_of_getElem? (i := 50) rfl)) (by decide) (by decide)) q23a q23c (g := (mkF m 184 #[.val (.int p1), .val (.int p2), .val (.int (1 : Int32)), .val (.int (((p2.toUInt32 >>> ((2 : Int32) &&& 31).toUInt32).toInt32) &&& (3 : Int32))), .val (.int c0), .val (.int c1), .val (.int c2), .val (.int c3), .val (.int qq), .val (.ref x_12), .val (.ref x_13), .val (.ref b14), .val (.int (0 : Int32))] [(.int qq), (.ref b14)])) rfl (by rw [hml]; rfl) (Steps.refl _) (argsL := [(.int qq)]) (rest := []) (lenOf pd_92619605 rfl) rfl (by show 2 * 0 + _ ≤ _; exact Nat.le_of_eq rfl) (hb hby at_184) (fun _ _ => ⟨rfl, rfl, (by decide : 14 + 0 ≤ _), (by decide : 73 + 0 ≤ _)⟩)
        dsimp only [Pt.U, Pt.locs, Pt.cells, Pt.slots] at X23 l23 y23 z23 st23 hQ23
        subst l23 y23 z23
        obtain ⟨r_23, rfl, Nq23, eq23, pq23_0⟩ := hQ23
        refine OwnGoes.tr (T' := T23) (g' := (mkF m 187 #[.val (.int p1), .val (.int p2), .val (.int (1 : Int32)), .val (.int (((p2.toUInt32 >>> ((2 : Int32) &&& 31).toUInt32).toInt32) &&& (3 : Int32))), .val (.int c0), .val (.int c1), .val (.int c2), .val (.int c3), .val (.int qq), .val (.ref x_12), .val (.ref x_13), .val (.ref b14), .val (.int (0 : Int32))] [(.int r_23)])) st23 ?_
        have N23 := Fr.app N19 Nq23
        refine OwnGoes.step (T' := T23) (g' := (mkF m 189 #[.val (.int p1), .val (.int p2), .val (.int (1 : Int32)), .val (.int (((p2.toUInt32 >>> ((2 : Int32) &&& 31).toUInt32).toInt32) &&& (3 : Int32))), .val (.int c0), .val (.int c1), .val (.int c2), .val (.int c3), .val (.int qq), .val (.ref x_12), .val (.ref x_13), .val (.ref b14), .val (.int (0 : Int32))] [(.int (0 : Int32)), (.int r_23)])) (fun tgt kgo => ?_) ?_
        · show Steps p.tables e below (T23.setTop (mkF m 187 #[.val (.int p1), .val (.int p2), .val (.int (1 : Int32)), .val (.int (((p2.toUInt32 >>> ((2 : Int32) &&& 31).toUInt32).toInt32) &&& (3 : Int32))), .val (.int c0), .val (.int c1), .val (.int c2), .val (.int c3), .val (.int qq), .val (.ref x_12), .val (.ref x_13), .val (.ref b14), .val (.int (0 : Int32))] [(.int r_23)])) tgt
          refine XS.iload X23.here hx rfl (hb hby at_187) rfl ?_
          exact kgo
        rcases pq23_0 with ⟨hw1, rfl⟩ | ⟨hw1, rfl⟩
        · skip
          exfalso
          exact cc20 hw1
        · skip
          refine OwnGoes.step (T' := T23) (g' := (mkF m 197 #[.val (.int p1), .val (.int p2), .val (.int (1 : Int32)), .val (.int (((p2.toUInt32 >>> ((2 : Int32) &&& 31).toUInt32).toInt32) &&& (3 : Int32))), .val (.int c0), .val (.int c1), .val (.int c2), .val (.int c3), .val (.int qq), .val (.ref x_12), .val (.ref x_13), .val (.ref b14), .val (.int (0 : Int32))] [(.int (1 : Int32))])) (fun tgt kgo => ?_) ?_
          · show Steps p.tables e below (T23.setTop (mkF m 189 #[.val (.int p1), .val (.int p2), .val (.int (1 : Int32)), .val (.int (((p2.toUInt32 >>> ((2 : Int32) &&& 31).toUInt32).toInt32) &&& (3 : Int32))), .val (.int c0), .val (.int c1), .val (.int c2), .val (.int c3), .val (.int qq), .val (.ref x_12), .val (.ref x_13), .val (.ref b14), .val (.int (0 : Int32))] [(.int (0 : Int32)), (.int 0)])) tgt
            refine XS.icmpNo X23.here hx rfl (hb hby at_189) rfl (teq rfl).2 ?_
            show Steps p.tables e below (T23.setTop (mkF m 192 #[.val (.int p1), .val (.int p2), .val (.int (1 : Int32)), .val (.int (((p2.toUInt32 >>> ((2 : Int32) &&& 31).toUInt32).toInt32) &&& (3 : Int32))), .val (.int c0), .val (.int c1), .val (.int c2), .val (.int c3), .val (.int qq), .val (.ref x_12), .val (.ref x_13), .val (.ref b14), .val (.int (0 : Int32))] [])) tgt
            refine XS.iconst X23.here hx rfl (hb hby at_192) ?_
            show Steps p.tables e below (T23.setTop (mkF m 193 #[.val (.int p1), .val (.int p2), .val (.int (1 : Int32)), .val (.int (((p2.toUInt32 >>> ((2 : Int32) &&& 31).toUInt32).toInt32) &&& (3 : Int32))), .val (.int c0), .val (.int c1), .val (.int c2), .val (.int c3), .val (.int qq), .val (.ref x_12), .val (.ref x_13), .val (.ref b14), .val (.int (0 : Int32))] [(.int (1 : Int32))])) tgt
            refine XS.goto X23.here hx rfl (pc0 := 193) (pc' := 197) rfl (hb hby at_193) (by decide) (by decide) ?_
            exact kgo
          refine own_leaveW (Z := Z) (EL := consts_1) X23 hS18 (eq23 ▸ hk19) hlk (v := some (.int (1 : Int32))) (fun h => by rw [Bd.returns] at h; cases h) (fun fs hr => retN X23 hx (t := .boolean) Bd.returns (by simp) (hb hby at_197) (by rw [(by decide : nar .boolean (1 : Int32) = (1 : Int32))]; exact hr)) (by decide) (by decide) ?_ ?_
          · rw [hh, eq23]
            exact R19.trans (CHv.at X23 hZ18 hEL R19.1)
          show Q_law Z p1 p2 h0 n0 _ T23.heap _
          rw [eq23]
          exact ⟨rfl, N23⟩
    · skip
      rw [hn3]
      obtain ⟨_, _, ⟨T25, L25, k25, n25⟩, -, X25, ⟨Lc25, hQ25, l25, y25, z25⟩, st25⟩ := Jvm.LawKit.callS X0 hx (y := (⟨"com/example/fieldwright/fieldwright/FieldStructureAllowsPinLaw", "subs", "(ICCC)Ljava/lang/String;"⟩ : MethodName)) hown (mvT hZ (hw _ (List.mem_of_getElem? (i := 0) rfl))) (mvT hZ (hw _ (List.mem_of_getElem? (i := 1) rfl))) (mvT hZ (hw _ (List.mem_of_getElem? (i := 2) rfl))) (mvT hZ (hw _ (List.mem_of_getElem? (i := 3) rfl))) (by decide) (backOf (W := 0) (rm_subs2 l Z a0 hw [] wG1 wO2 wP5 wG3 wO4 wrG3 hstr hEL h0 n0 X00 c0 c1 c2 hl_c0 hl_c1 hl_c2) hZ (hw _ (List.mem_of_getElem? (i := 3) rfl)) (hw _ (List.mem_of_getElem? (i := 2) rfl)) (by decide) (by decide)) (g := (mkF m 97 #[.val (.int p1), .val (.int p2), .val (.int (2 : Int32)), .val (.int (((p2.toUInt32 >>> ((2 : Int32) &&& 31).toUInt32).toInt32) &&& (3 : Int32))), .val (.int c0), .val (.int c1), .val (.int c2), .val (.int c3), .val (.int qq), .unset, .unset, .unset, .unset] [(.int c2), (.int c1), (.int c0), (.int (2 : Int32))])) rfl (by rw [hml]; rfl) (argsL := [(.int (2 : Int32)), (.int c0), (.int c1), (.int c2)]) (rest := []) (lenOf pd_31847132 rfl) rfl (by show 2 * 0 + _ ≤ _; exact Nat.le_of_eq rfl) (hb hby at_97) (fun _ _ => ⟨rfl, e0, (by decide : 0 + 3 ≤ _), (by decide : 0 + 8 ≤ _)⟩)
      dsimp only [Pt.U, Pt.locs, Pt.cells, Pt.slots] at X25 l25 y25 z25 st25 hQ25
      subst l25 y25 z25
      obtain ⟨x_25, t_25, k_25, rfl, Nq25, Kq25, zq25_0, fq25_0, fq25_1, fq25_2, fq25_3⟩ := hQ25
      refine OwnGoes.step (T' := T25) (g' := (mkF m 100 #[.val (.int p1), .val (.int p2), .val (.int (2 : Int32)), .val (.int (((p2.toUInt32 >>> ((2 : Int32) &&& 31).toUInt32).toInt32) &&& (3 : Int32))), .val (.int c0), .val (.int c1), .val (.int c2), .val (.int c3), .val (.int qq), .unset, .unset, .unset, .unset] [(.ref x_25)])) st25 ?_
      have N25 := Fr.app N0 Nq25
      have g_x_25 : n0 ≤ x_25 := Nat.le_trans (Nat.le_trans Z0 K0.1) zq25_0
      have s_x_25 : h0.size ≤ x_25 := Nat.le_trans K0.1 zq25_0
      have Ol25 := X00.keep Kq25 all0
      have K25 : Keep h0 T25.heap ([] : List Addr) := K0.trans Kq25 all0
      have R25 := R0.trans (CHr.keep Kq25 sf0 R0.1)
      have hk25 := Nat.le_trans hk0 Kq25.1
      refine OwnGoes.step (T' := T25) (g' := (mkF m 111 #[.val (.int p1), .val (.int p2), .val (.int (2 : Int32)), .val (.int (((p2.toUInt32 >>> ((2 : Int32) &&& 31).toUInt32).toInt32) &&& (3 : Int32))), .val (.int c0), .val (.int c1), .val (.int c2), .val (.int c3), .val (.int qq), .val (.ref x_25), .unset, .unset, .unset] [(.int (nar .char (((p2.toUInt32 >>> ((8 : Int32) &&& 31).toUInt32).toInt32) &&& (255 : Int32))))])) (fun tgt kgo => ?_) ?_
      · show Steps p.tables e below (T25.setTop (mkF m 100 #[.val (.int p1), .val (.int p2), .val (.int (2 : Int32)), .val (.int (((p2.toUInt32 >>> ((2 : Int32) &&& 31).toUInt32).toInt32) &&& (3 : Int32))), .val (.int c0), .val (.int c1), .val (.int c2), .val (.int c3), .val (.int qq), .unset, .unset, .unset, .unset] [(.ref x_25)])) tgt
        refine XS.astore X25.here hx rfl (hb hby at_100) rfl rfl (l' := #[.val (.int p1), .val (.int p2), .val (.int (2 : Int32)), .val (.int (((p2.toUInt32 >>> ((2 : Int32) &&& 31).toUInt32).toInt32) &&& (3 : Int32))), .val (.int c0), .val (.int c1), .val (.int c2), .val (.int c3), .val (.int qq), .val (.ref x_25), .unset, .unset, .unset]) rfl ?_
        show Steps p.tables e below (T25.setTop (mkF m 102 #[.val (.int p1), .val (.int p2), .val (.int (2 : Int32)), .val (.int (((p2.toUInt32 >>> ((2 : Int32) &&& 31).toUInt32).toInt32) &&& (3 : Int32))), .val (.int c0), .val (.int c1), .val (.int c2), .val (.int c3), .val (.int qq), .val (.ref x_25), .unset, .unset, .unset] [])) tgt
        refine XS.iloadN X25.here hx rfl (hb hby at_102) rfl ?_
        show Steps p.tables e below (T25.setTop (mkF m 103 #[.val (.int p1), .val (.int p2), .val (.int (2 : Int32)), .val (.int (((p2.toUInt32 >>> ((2 : Int32) &&& 31).toUInt32).toInt32) &&& (3 : Int32))), .val (.int c0), .val (.int c1), .val (.int c2), .val (.int c3), .val (.int qq), .val (.ref x_25), .unset, .unset, .unset] [(.int p2)])) tgt
        refine XS.bipush X25.here hx rfl (hb hby at_103) ?_
        show Steps p.tables e below (T25.setTop (mkF m 105 #[.val (.int p1), .val (.int p2), .val (.int (2 : Int32)), .val (.int (((p2.toUInt32 >>> ((2 : Int32) &&& 31).toUInt32).toInt32) &&& (3 : Int32))), .val (.int c0), .val (.int c1), .val (.int c2), .val (.int c3), .val (.int qq), .val (.ref x_25), .unset, .unset, .unset] [(.int (8 : Int32)), (.int p2)])) tgt
        refine XS.iushr X25.here hx rfl (hb hby at_105) rfl ?_
        show Steps p.tables e below (T25.setTop (mkF m 106 #[.val (.int p1), .val (.int p2), .val (.int (2 : Int32)), .val (.int (((p2.toUInt32 >>> ((2 : Int32) &&& 31).toUInt32).toInt32) &&& (3 : Int32))), .val (.int c0), .val (.int c1), .val (.int c2), .val (.int c3), .val (.int qq), .val (.ref x_25), .unset, .unset, .unset] [(.int ((p2.toUInt32 >>> ((8 : Int32) &&& 31).toUInt32).toInt32))])) tgt
        refine XS.sipush X25.here hx rfl (hb hby at_106) ?_
        show Steps p.tables e below (T25.setTop (mkF m 109 #[.val (.int p1), .val (.int p2), .val (.int (2 : Int32)), .val (.int (((p2.toUInt32 >>> ((2 : Int32) &&& 31).toUInt32).toInt32) &&& (3 : Int32))), .val (.int c0), .val (.int c1), .val (.int c2), .val (.int c3), .val (.int qq), .val (.ref x_25), .unset, .unset, .unset] [(.int (255 : Int32)), (.int ((p2.toUInt32 >>> ((8 : Int32) &&& 31).toUInt32).toInt32))])) tgt
        refine XS.iand X25.here hx rfl (hb hby at_109) rfl ?_
        show Steps p.tables e below (T25.setTop (mkF m 110 #[.val (.int p1), .val (.int p2), .val (.int (2 : Int32)), .val (.int (((p2.toUInt32 >>> ((2 : Int32) &&& 31).toUInt32).toInt32) &&& (3 : Int32))), .val (.int c0), .val (.int c1), .val (.int c2), .val (.int c3), .val (.int qq), .val (.ref x_25), .unset, .unset, .unset] [(.int (((p2.toUInt32 >>> ((8 : Int32) &&& 31).toUInt32).toInt32) &&& (255 : Int32)))])) tgt
        refine XS.i2c X25.here hx rfl (hb hby at_110) rfl ?_
        exact kgo
      obtain ⟨_, _, ⟨T26, L26, k26, n26⟩, -, X26, ⟨Lc26, hQ26, l26, y26, z26⟩, st26⟩ := Jvm.LawKit.callS X25 hx (y := (⟨"java/lang/String", "valueOf", "(C)Ljava/lang/String;"⟩ : MethodName)) hown (mvT hZ (hw _ (List.mem_of_getElem? (i := 34) rfl))) (mvT hZ (hw _ (List.mem_of_getElem? (i := 35) rfl))) (mvT hZ (hw _ (List.mem_of_getElem? (i := 6) rfl))) (mvT hZ (hw _ (List.mem_of_getElem? (i := 36) rfl))) (by decide) (backOf (W := 0) (rm_valueOf l Z a0 hw [] wG1 wO2 wP5 wG3 wO4 wrG3 hstr hEL T25.heap n0 Ol25 (nar .char (((p2.toUInt32 >>> ((8 : Int32) &&& 31).toUInt32).toInt32) &&& (255 : Int32))) (own_lat255 ((p2.toUInt32 >>> ((8 : Int32) &&& 31).toUInt32).toInt32)).2) hZ (hw _ (List.mem_of_getElem? (i := 36) rfl)) (hw _ (List.mem_of_getElem? (i := 6) rfl)) (by decide) (by decide)) (g := (mkF m 111 #[.val (.int p1), .val (.int p2), .val (.int (2 : Int32)), .val (.int (((p2.toUInt32 >>> ((2 : Int32) &&& 31).toUInt32).toInt32) &&& (3 : Int32))), .val (.int c0), .val (.int c1), .val (.int c2), .val (.int c3), .val (.int qq), .val (.ref x_25), .unset, .unset, .unset] [(.int (nar .char (((p2.toUInt32 >>> ((8 : Int32) &&& 31).toUInt32).toInt32) &&& (255 : Int32))))])) rfl (by rw [hml]; rfl) (argsL := [(.int (nar .char (((p2.toUInt32 >>> ((8 : Int32) &&& 31).toUInt32).toInt32) &&& (255 : Int32))))]) (rest := []) (lenOf pd_44149578 rfl) rfl (by show 2 * 0 + _ ≤ _; exact Nat.le_of_eq rfl) (hb hby at_111) (fun _ _ => ⟨rfl, rfl, (by decide : 3 + 2 ≤ _), (by decide : 8 + 5 ≤ _)⟩)
      dsimp only [Pt.U, Pt.locs, Pt.cells, Pt.slots] at X26 l26 y26 z26 st26 hQ26
      subst l26 y26 z26
      obtain ⟨x_26, t_26, k_26, rfl, Nq26, Kq26, zq26_0, zq26_1, fq26_0, fq26_1, fq26_2, fq26_3⟩ := hQ26
      refine OwnGoes.step (T' := T26) (g' := (mkF m 114 #[.val (.int p1), .val (.int p2), .val (.int (2 : Int32)), .val (.int (((p2.toUInt32 >>> ((2 : Int32) &&& 31).toUInt32).toInt32) &&& (3 : Int32))), .val (.int c0), .val (.int c1), .val (.int c2), .val (.int c3), .val (.int qq), .val (.ref x_25), .unset, .unset, .unset] [(.ref x_26)])) st26 ?_
      have N26 := Fr.app N25 Nq26
      have ne_x_25_x_26 : x_25 ≠ x_26 := Nat.ne_of_lt (Nat.lt_of_lt_of_le fq25_0.lt zq26_0)
      have ne_t_25_x_26 : t_25 ≠ x_26 := Nat.ne_of_lt (Nat.lt_of_lt_of_le fq25_3.lt zq26_0)
      have g_x_26 : n0 ≤ x_26 := Nat.le_trans (Nat.le_trans Z0 K25.1) zq26_0
      have s_x_26 : h0.size ≤ x_26 := Nat.le_trans K25.1 zq26_0
      have ne_x_25_t_26 : x_25 ≠ t_26 := Nat.ne_of_lt (Nat.lt_of_lt_of_le fq25_0.lt zq26_1)
      have ne_t_25_t_26 : t_25 ≠ t_26 := Nat.ne_of_lt (Nat.lt_of_lt_of_le fq25_3.lt zq26_1)
      have g_t_26 : n0 ≤ t_26 := Nat.le_trans (Nat.le_trans Z0 K25.1) zq26_1
      have s_t_26 : h0.size ≤ t_26 := Nat.le_trans K25.1 zq26_1
      have F26_137 := fq25_0.keep Kq26
      have F26_138 := fq25_1.keep Kq26 nin0
      have F26_139 := fq25_2.keep Kq26 nin0
      have F26_140 := fq25_3.keep Kq26 nin0
      have Ol26 := Ol25.keep Kq26 all0
      have K26 : Keep h0 T26.heap ([] : List Addr) := K25.trans Kq26 all0
      have R26 := R25.trans (CHr.keep Kq26 sf0 R25.1)
      have hk26 := Nat.le_trans hk25 Kq26.1
      refine OwnGoes.step (T' := T26) (g' := (mkF m 116 #[.val (.int p1), .val (.int p2), .val (.int (2 : Int32)), .val (.int (((p2.toUInt32 >>> ((2 : Int32) &&& 31).toUInt32).toInt32) &&& (3 : Int32))), .val (.int c0), .val (.int c1), .val (.int c2), .val (.int c3), .val (.int qq), .val (.ref x_25), .val (.ref x_26), .unset, .unset] [])) (fun tgt kgo => ?_) ?_
      · show Steps p.tables e below (T26.setTop (mkF m 114 #[.val (.int p1), .val (.int p2), .val (.int (2 : Int32)), .val (.int (((p2.toUInt32 >>> ((2 : Int32) &&& 31).toUInt32).toInt32) &&& (3 : Int32))), .val (.int c0), .val (.int c1), .val (.int c2), .val (.int c3), .val (.int qq), .val (.ref x_25), .unset, .unset, .unset] [(.ref x_26)])) tgt
        refine XS.astore X26.here hx rfl (hb hby at_114) rfl rfl (l' := #[.val (.int p1), .val (.int p2), .val (.int (2 : Int32)), .val (.int (((p2.toUInt32 >>> ((2 : Int32) &&& 31).toUInt32).toInt32) &&& (3 : Int32))), .val (.int c0), .val (.int c1), .val (.int c2), .val (.int c3), .val (.int qq), .val (.ref x_25), .val (.ref x_26), .unset, .unset]) rfl ?_
        exact kgo
      obtain ⟨T27, h27, X27, e27, E27, A27, D27, U27, st27⟩ := newO X26 hx hZ hown (hw _ (List.mem_of_getElem? (i := 48) rfl)) (hw _ (List.mem_of_getElem? (i := 49) rfl)) (hw _ (List.mem_of_getElem? (i := 50) rfl)) rfl (g := (mkF m 116 #[.val (.int p1), .val (.int p2), .val (.int (2 : Int32)), .val (.int (((p2.toUInt32 >>> ((2 : Int32) &&& 31).toUInt32).toInt32) &&& (3 : Int32))), .val (.int c0), .val (.int c1), .val (.int c2), .val (.int c3), .val (.int qq), .val (.ref x_25), .val (.ref x_26), .unset, .unset] [])) rfl (hb hby at_116) (by decide) (by decide)
      obtain ⟨b27, g27⟩ : ∃ z, z = T26.heap.size := ⟨_, rfl⟩
      rw [← g27] at A27 D27 U27 st27
      refine OwnGoes.step (T' := T27) (g' := (mkF m 119 #[.val (.int p1), .val (.int p2), .val (.int (2 : Int32)), .val (.int (((p2.toUInt32 >>> ((2 : Int32) &&& 31).toUInt32).toInt32) &&& (3 : Int32))), .val (.int c0), .val (.int c1), .val (.int c2), .val (.int c3), .val (.int qq), .val (.ref x_25), .val (.ref x_26), .unset, .unset] [(.ref b27)])) st27 ?_
      have ne_x_25_b27 : x_25 ≠ b27 := Nat.ne_of_lt (Nat.lt_of_lt_of_le F26_137.lt (Nat.le_of_eq g27.symm))
      have ne_t_25_b27 : t_25 ≠ b27 := Nat.ne_of_lt (Nat.lt_of_lt_of_le F26_140.lt (Nat.le_of_eq g27.symm))
      have g_b27 : n0 ≤ b27 := Nat.le_trans (Nat.le_trans Z0 K26.1) (Nat.le_of_eq g27.symm)
      have s_b27 : h0.size ≤ b27 := Nat.le_trans K26.1 (Nat.le_of_eq g27.symm)
      have Sf27 : Safe Z consts_1 s.vm h27 b27 := Safe.ext E27 R26.1 (Safe.new (Nat.le_of_eq g27.symm))
      have F27_141 := F26_137.ext E27
      have F27_142 := F26_138.ext E27
      have F27_143 := F26_139.ext E27
      have F27_144 := F26_140.ext E27
      have Ol27 := Ol26.ext E27
      have K27 : Keep h0 h27 ([] : List Addr) := K26.ext E27
      have R27 := R26.trans (CHr.ext E27 R26.1)
      have hk27 := Nat.le_trans hk26 E27.1
      have F27_145 : Fld Z h27 b27 "com/example/fieldwright/fieldwright/FieldStructure" "tag" "Ljava/lang/String;" .null := D27 (Or.inr (hw _ (List.mem_of_getElem? (i := 67) rfl))) (ty := (.object "java/lang/String")) (by decide)
      have F27_146 : Fld Z h27 b27 "com/example/fieldwright/fieldwright/FieldStructure" "indicator1" "Ljava/lang/String;" .null := D27 (Or.inr (hw _ (List.mem_of_getElem? (i := 69) rfl))) (ty := (.object "java/lang/String")) (by decide)
      have F27_147 : Fld Z h27 b27 "com/example/fieldwright/fieldwright/FieldStructure" "indicator2" "Ljava/lang/String;" .null := D27 (Or.inr (hw _ (List.mem_of_getElem? (i := 71) rfl))) (ty := (.object "java/lang/String")) (by decide)
      have F27_148 : Fld Z h27 b27 "com/example/fieldwright/fieldwright/FieldStructure" "indicatorRule" "Ljava/lang/String;" .null := D27 (Or.inr (hw _ (List.mem_of_getElem? (i := 73) rfl))) (ty := (.object "java/lang/String")) (by decide)
      have F27_149 : Fld Z h27 b27 "com/example/fieldwright/fieldwright/FieldStructure" "subfields" "Ljava/lang/String;" .null := D27 (Or.inr (hw _ (List.mem_of_getElem? (i := 75) rfl))) (ty := (.object "java/lang/String")) (by decide)
      have F27_150 : Fld Z h27 b27 "com/example/fieldwright/fieldwright/FieldStructure" "repeatable" "Ljava/lang/String;" .null := D27 (Or.inr (hw _ (List.mem_of_getElem? (i := 77) rfl))) (ty := (.object "java/lang/String")) (by decide)
      refine OwnGoes.step (T' := T27) (g' := (mkF m 120 #[.val (.int p1), .val (.int p2), .val (.int (2 : Int32)), .val (.int (((p2.toUInt32 >>> ((2 : Int32) &&& 31).toUInt32).toInt32) &&& (3 : Int32))), .val (.int c0), .val (.int c1), .val (.int c2), .val (.int c3), .val (.int qq), .val (.ref x_25), .val (.ref x_26), .unset, .unset] [(.ref b27), (.ref b27)])) (fun tgt kgo => ?_) ?_
      · show Steps p.tables e below (T27.setTop (mkF m 119 #[.val (.int p1), .val (.int p2), .val (.int (2 : Int32)), .val (.int (((p2.toUInt32 >>> ((2 : Int32) &&& 31).toUInt32).toInt32) &&& (3 : Int32))), .val (.int c0), .val (.int c1), .val (.int c2), .val (.int c3), .val (.int qq), .val (.ref x_25), .val (.ref x_26), .unset, .unset] [(.ref b27)])) tgt
        refine XS.dup X27.here hx rfl (hb hby at_119) rfl rfl ?_
        exact kgo
      obtain ⟨b28, T28, h28, kk28, X28, e28, E28, hS28, hk28, hZ28, ho28, Rc28, Lt28, st28⟩ := ldcOH X27 hx hZ hown (hw _ (List.mem_of_getElem? (i := 51) rfl)) hstr e27 hS0 hk27 hEL R27.1 (g := (mkF m 120 #[.val (.int p1), .val (.int p2), .val (.int (2 : Int32)), .val (.int (((p2.toUInt32 >>> ((2 : Int32) &&& 31).toUInt32).toInt32) &&& (3 : Int32))), .val (.int c0), .val (.int c1), .val (.int c2), .val (.int c3), .val (.int qq), .val (.ref x_25), .val (.ref x_26), .unset, .unset] [(.ref b27), (.ref b27)])) rfl (hb hby at_120) (n := 12) (by decide) (by decide) (by decide) (by decide)
      refine OwnGoes.step (T' := T28) (g' := (mkF m 122 #[.val (.int p1), .val (.int p2), .val (.int (2 : Int32)), .val (.int (((p2.toUInt32 >>> ((2 : Int32) &&& 31).toUInt32).toInt32) &&& (3 : Int32))), .val (.int c0), .val (.int c1), .val (.int c2), .val (.int c3), .val (.int qq), .val (.ref x_25), .val (.ref x_26), .unset, .unset] [(.ref b28), (.ref b27), (.ref b27)])) st28 ?_
      have F28_151 := F27_141.ext E28
      have F28_152 := F27_142.ext E28
      have F28_153 := F27_143.ext E28
      have F28_154 := F27_144.ext E28
      have F28_155 := Rc28.safe A27.lt Sf27
      have F28_156 := A27.ext E28
      have F28_157 := F27_145.ext E28
      have F28_158 := F27_146.ext E28
      have F28_159 := F27_147.ext E28
      have F28_160 := F27_148.ext E28
      have F28_161 := F27_149.ext E28
      have F28_162 := F27_150.ext E28
      have Ol28 := Ol27.ext E28
      have K28 : Keep h0 h28 ([] : List Addr) := K27.ext E28
      have R28 := R27.trans Rc28
      obtain ⟨b29, T29, h29, kk29, X29, e29, E29, hS29, hk29, hZ29, ho29, Rc29, Lt29, st29⟩ := ldcOH X28 hx hZ28 ho28 (hw _ (List.mem_of_getElem? (i := 54) rfl)) hstr e28 hS28 hk28 hEL R28.1 (g := (mkF m 122 #[.val (.int p1), .val (.int p2), .val (.int (2 : Int32)), .val (.int (((p2.toUInt32 >>> ((2 : Int32) &&& 31).toUInt32).toInt32) &&& (3 : Int32))), .val (.int c0), .val (.int c1), .val (.int c2), .val (.int c3), .val (.int qq), .val (.ref x_25), .val (.ref x_26), .unset, .unset] [(.ref b28), (.ref b27), (.ref b27)])) rfl (hb hby at_122) (n := 4) (by decide) (by decide) (by decide) (by decide)
      refine OwnGoes.step (T' := T29) (g' := (mkF m 124 #[.val (.int p1), .val (.int p2), .val (.int (2 : Int32)), .val (.int (((p2.toUInt32 >>> ((2 : Int32) &&& 31).toUInt32).toInt32) &&& (3 : Int32))), .val (.int c0), .val (.int c1), .val (.int c2), .val (.int c3), .val (.int qq), .val (.ref x_25), .val (.ref x_26), .unset, .unset] [(.ref b29), (.ref b28), (.ref b27), (.ref b27)])) st29 ?_
      have F29_163 := F28_151.ext E29
      have F29_164 := F28_152.ext E29
      have F29_165 := F28_153.ext E29
      have F29_166 := F28_154.ext E29
      have F29_167 := Rc29.safe F28_156.lt F28_155
      have F29_168 := F28_156.ext E29
      have F29_169 := F28_157.ext E29
      have F29_170 := F28_158.ext E29
      have F29_171 := F28_159.ext E29
      have F29_172 := F28_160.ext E29
      have F29_173 := F28_161.ext E29
      have F29_174 := F28_162.ext E29
      have Ol29 := Ol28.ext E29
      have K29 : Keep h0 h29 ([] : List Addr) := K28.ext E29
      have R29 := R28.trans Rc29
      obtain ⟨b30, T30, h30, kk30, X30, e30, E30, hS30, hk30, hZ30, ho30, Rc30, Lt30, st30⟩ := ldcOH X29 hx hZ29 ho29 (hw _ (List.mem_of_getElem? (i := 55) rfl)) hstr e29 hS29 hk29 hEL R29.1 (g := (mkF m 124 #[.val (.int p1), .val (.int p2), .val (.int (2 : Int32)), .val (.int (((p2.toUInt32 >>> ((2 : Int32) &&& 31).toUInt32).toInt32) &&& (3 : Int32))), .val (.int c0), .val (.int c1), .val (.int c2), .val (.int c3), .val (.int qq), .val (.ref x_25), .val (.ref x_26), .unset, .unset] [(.ref b29), (.ref b28), (.ref b27), (.ref b27)])) rfl (hb hby at_124) (n := 8) (by decide) (by decide) (by decide) (by decide)
      refine OwnGoes.step (T' := T30) (g' := (mkF m 126 #[.val (.int p1), .val (.int p2), .val (.int (2 : Int32)), .val (.int (((p2.toUInt32 >>> ((2 : Int32) &&& 31).toUInt32).toInt32) &&& (3 : Int32))), .val (.int c0), .val (.int c1), .val (.int c2), .val (.int c3), .val (.int qq), .val (.ref x_25), .val (.ref x_26), .unset, .unset] [(.ref b30), (.ref b29), (.ref b28), (.ref b27), (.ref b27)])) st30 ?_
      have F30_175 := F29_163.ext E30
      have F30_176 := F29_164.ext E30
      have F30_177 := F29_165.ext E30
      have F30_178 := F29_166.ext E30
      have F30_179 := Rc30.safe F29_168.lt F29_167
      have F30_180 := F29_168.ext E30
      have F30_181 := F29_169.ext E30
      have F30_182 := F29_170.ext E30
      have F30_183 := F29_171.ext E30
      have F30_184 := F29_172.ext E30
      have F30_185 := F29_173.ext E30
      have F30_186 := F29_174.ext E30
      have Ol30 := Ol29.ext E30
      have K30 : Keep h0 h30 ([] : List Addr) := K29.ext E30
      have R30 := R29.trans Rc30
      obtain ⟨b31, T31, h31, kk31, X31, e31, E31, hS31, hk31, hZ31, ho31, Rc31, Lt31, st31⟩ := ldcOH X30 hx hZ30 ho30 (hw _ (List.mem_of_getElem? (i := 56) rfl)) hstr e30 hS30 hk30 hEL R30.1 (g := (mkF m 126 #[.val (.int p1), .val (.int p2), .val (.int (2 : Int32)), .val (.int (((p2.toUInt32 >>> ((2 : Int32) &&& 31).toUInt32).toInt32) &&& (3 : Int32))), .val (.int c0), .val (.int c1), .val (.int c2), .val (.int c3), .val (.int qq), .val (.ref x_25), .val (.ref x_26), .unset, .unset] [(.ref b30), (.ref b29), (.ref b28), (.ref b27), (.ref b27)])) rfl (hb hby at_126) (n := 16) (by decide) (by decide) (by decide) (by decide)
      refine OwnGoes.step (T' := T31) (g' := (mkF m 128 #[.val (.int p1), .val (.int p2), .val (.int (2 : Int32)), .val (.int (((p2.toUInt32 >>> ((2 : Int32) &&& 31).toUInt32).toInt32) &&& (3 : Int32))), .val (.int c0), .val (.int c1), .val (.int c2), .val (.int c3), .val (.int qq), .val (.ref x_25), .val (.ref x_26), .unset, .unset] [(.ref b31), (.ref b30), (.ref b29), (.ref b28), (.ref b27), (.ref b27)])) st31 ?_
      have F31_187 := F30_175.ext E31
      have F31_188 := F30_176.ext E31
      have F31_189 := F30_177.ext E31
      have F31_190 := F30_178.ext E31
      have F31_191 := Rc31.safe F30_180.lt F30_179
      have F31_192 := F30_180.ext E31
      have F31_193 := F30_181.ext E31
      have F31_194 := F30_182.ext E31
      have F31_195 := F30_183.ext E31
      have F31_196 := F30_184.ext E31
      have F31_197 := F30_185.ext E31
      have F31_198 := F30_186.ext E31
      have Ol31 := Ol30.ext E31
      have K31 : Keep h0 h31 ([] : List Addr) := K30.ext E31
      have R31 := R30.trans Rc31
      refine OwnGoes.step (T' := T31) (g' := (mkF m 132 #[.val (.int p1), .val (.int p2), .val (.int (2 : Int32)), .val (.int (((p2.toUInt32 >>> ((2 : Int32) &&& 31).toUInt32).toInt32) &&& (3 : Int32))), .val (.int c0), .val (.int c1), .val (.int c2), .val (.int c3), .val (.int qq), .val (.ref x_25), .val (.ref x_26), .unset, .unset] [(.ref x_26), (.ref x_25), (.ref b31), (.ref b30), (.ref b29), (.ref b28), (.ref b27), (.ref b27)])) (fun tgt kgo => ?_) ?_
      · show Steps p.tables e below (T31.setTop (mkF m 128 #[.val (.int p1), .val (.int p2), .val (.int (2 : Int32)), .val (.int (((p2.toUInt32 >>> ((2 : Int32) &&& 31).toUInt32).toInt32) &&& (3 : Int32))), .val (.int c0), .val (.int c1), .val (.int c2), .val (.int c3), .val (.int qq), .val (.ref x_25), .val (.ref x_26), .unset, .unset] [(.ref b31), (.ref b30), (.ref b29), (.ref b28), (.ref b27), (.ref b27)])) tgt
        refine XS.aload X31.here hx rfl (hb hby at_128) rfl rfl ?_
        show Steps p.tables e below (T31.setTop (mkF m 130 #[.val (.int p1), .val (.int p2), .val (.int (2 : Int32)), .val (.int (((p2.toUInt32 >>> ((2 : Int32) &&& 31).toUInt32).toInt32) &&& (3 : Int32))), .val (.int c0), .val (.int c1), .val (.int c2), .val (.int c3), .val (.int qq), .val (.ref x_25), .val (.ref x_26), .unset, .unset] [(.ref x_25), (.ref b31), (.ref b30), (.ref b29), (.ref b28), (.ref b27), (.ref b27)])) tgt
        refine XS.aload X31.here hx rfl (hb hby at_130) rfl rfl ?_
        exact kgo
      obtain ⟨_, _, ⟨T32, L32, k32, n32⟩, -, X32, ⟨Lc32, hQ32, l32, y32, z32⟩, st32⟩ := X31.specialBack hx (y := (⟨"com/example/fieldwright/fieldwright/FieldStructure", "<init>", "(Ljava/lang/String;Ljava/lang/String;Ljava/lang/String;Ljava/lang/String;Ljava/lang/String;Ljava/lang/String;)V"⟩ : MethodName)) rfl ho31 (mvT hZ31 (hw _ (List.mem_of_getElem? (i := 57) rfl))) (mvT hZ31 (hw _ (List.mem_of_getElem? (i := 58) rfl))) (mvT hZ31 (hw _ (List.mem_of_getElem? (i := 59) rfl))) (by decide) (backOf (W := 1) (rm_fini l Z a0 hw [] wG1 wO2 wP5 wG3 wO4 wrG3 hstr hEL h31 n0 Ol31 b27 b28 b29 b30 b31 x_25 x_26 F31_192 F31_193 F31_194 F31_195 F31_196 F31_197 F31_198 g_b27) hZ31 (hw _ (List.mem_of_getElem? (i := 59) rfl)) (hw _ (List.mem_of_getElem? (i := 50) rfl)) (by decide) (by decide)) (g := (mkF m 132 #[.val (.int p1), .val (.int p2), .val (.int (2 : Int32)), .val (.int (((p2.toUInt32 >>> ((2 : Int32) &&& 31).toUInt32).toInt32) &&& (3 : Int32))), .val (.int c0), .val (.int c1), .val (.int c2), .val (.int c3), .val (.int qq), .val (.ref x_25), .val (.ref x_26), .unset, .unset] [(.ref x_26), (.ref x_25), (.ref b31), (.ref b30), (.ref b29), (.ref b28), (.ref b27), (.ref b27)])) rfl (by rw [hml]; rfl) (Steps.refl _) (a := b27) (argsL := [(.ref b28), (.ref b29), (.ref b30), (.ref b31), (.ref x_25), (.ref x_26)]) (rest := [(.ref b27)]) (lenOf pd_60881529 rfl) rfl (by show 2 * 0 + _ ≤ _; exact Nat.le_of_eq rfl) (hb hby at_132) (fun _ _ => ⟨rfl, e31, (by decide : 14 + 0 ≤ _), (by decide : 75 + 0 ≤ _)⟩)
      dsimp only [Pt.U, Pt.locs, Pt.cells, Pt.slots] at X32 l32 y32 z32 st32 hQ32
      subst l32 y32 z32
      obtain ⟨rfl, Nq32, Kq32, fq32_0, fq32_1⟩ := hQ32
      refine OwnGoes.tr (T' := T32) (g' := (mkF m 135 #[.val (.int p1), .val (.int p2), .val (.int (2 : Int32)), .val (.int (((p2.toUInt32 >>> ((2 : Int32) &&& 31).toUInt32).toInt32) &&& (3 : Int32))), .val (.int c0), .val (.int c1), .val (.int c2), .val (.int c3), .val (.int qq), .val (.ref x_25), .val (.ref x_26), .unset, .unset] [(.ref b27)])) st32 ?_
      have N32 := Fr.app N26 Nq32
      have F32_199 := F31_187.keep Kq32
      have F32_200 := F31_188.keep Kq32 (ninS ne_x_25_b27 nin0)
      have F32_201 := F31_189.keep Kq32 (ninS ne_x_25_b27 nin0)
      have F32_202 := F31_190.keep Kq32 (ninS ne_t_25_b27 nin0)
      have F32_203 := Safe.keep Kq32 (sfS F31_191 sf0) R31.1 F31_191
      have F32_204 := F31_192.keep Kq32
      have Ol32 := Ol31.keep Kq32 (allS g_b27 all0)
      have K32 : Keep h0 T32.heap ([] : List Addr) := K31.trans Kq32 (allS (Or.inr s_b27) all0)
      have R32 := R31.trans (CHr.keep Kq32 (sfS F31_191 sf0) R31.1)
      have hk32 := Nat.le_trans hk31 Kq32.1
      refine OwnGoes.step (T' := T32) (g' := (mkF m 146 #[.val (.int p1), .val (.int p2), .val (.int (2 : Int32)), .val (.int (((p2.toUInt32 >>> ((2 : Int32) &&& 31).toUInt32).toInt32) &&& (3 : Int32))), .val (.int c0), .val (.int c1), .val (.int c2), .val (.int c3), .val (.int qq), .val (.ref x_25), .val (.ref x_26), .val (.ref b27), .unset] [(.int c0), (.int qq)])) (fun tgt kgo => ?_) ?_
      · show Steps p.tables e below (T32.setTop (mkF m 135 #[.val (.int p1), .val (.int p2), .val (.int (2 : Int32)), .val (.int (((p2.toUInt32 >>> ((2 : Int32) &&& 31).toUInt32).toInt32) &&& (3 : Int32))), .val (.int c0), .val (.int c1), .val (.int c2), .val (.int c3), .val (.int qq), .val (.ref x_25), .val (.ref x_26), .unset, .unset] [(.ref b27)])) tgt
        refine XS.astore X32.here hx rfl (hb hby at_135) rfl rfl (l' := #[.val (.int p1), .val (.int p2), .val (.int (2 : Int32)), .val (.int (((p2.toUInt32 >>> ((2 : Int32) &&& 31).toUInt32).toInt32) &&& (3 : Int32))), .val (.int c0), .val (.int c1), .val (.int c2), .val (.int c3), .val (.int qq), .val (.ref x_25), .val (.ref x_26), .val (.ref b27), .unset]) rfl ?_
        show Steps p.tables e below (T32.setTop (mkF m 137 #[.val (.int p1), .val (.int p2), .val (.int (2 : Int32)), .val (.int (((p2.toUInt32 >>> ((2 : Int32) &&& 31).toUInt32).toInt32) &&& (3 : Int32))), .val (.int c0), .val (.int c1), .val (.int c2), .val (.int c3), .val (.int qq), .val (.ref x_25), .val (.ref x_26), .val (.ref b27), .unset] [])) tgt
        refine XS.iloadN X32.here hx rfl (hb hby at_137) rfl ?_
        show Steps p.tables e below (T32.setTop (mkF m 138 #[.val (.int p1), .val (.int p2), .val (.int (2 : Int32)), .val (.int (((p2.toUInt32 >>> ((2 : Int32) &&& 31).toUInt32).toInt32) &&& (3 : Int32))), .val (.int c0), .val (.int c1), .val (.int c2), .val (.int c3), .val (.int qq), .val (.ref x_25), .val (.ref x_26), .val (.ref b27), .unset] [(.int (2 : Int32))])) tgt
        refine XS.iconst X32.here hx rfl (hb hby at_138) ?_
        show Steps p.tables e below (T32.setTop (mkF m 139 #[.val (.int p1), .val (.int p2), .val (.int (2 : Int32)), .val (.int (((p2.toUInt32 >>> ((2 : Int32) &&& 31).toUInt32).toInt32) &&& (3 : Int32))), .val (.int c0), .val (.int c1), .val (.int c2), .val (.int c3), .val (.int qq), .val (.ref x_25), .val (.ref x_26), .val (.ref b27), .unset] [(.int (1 : Int32)), (.int (2 : Int32))])) tgt
        refine XS.icmpNo X32.here hx rfl (hb hby at_139) rfl (flt (by decide : ¬ ((2 : Int32) < (1 : Int32)))).1 ?_
        show Steps p.tables e below (T32.setTop (mkF m 142 #[.val (.int p1), .val (.int p2), .val (.int (2 : Int32)), .val (.int (((p2.toUInt32 >>> ((2 : Int32) &&& 31).toUInt32).toInt32) &&& (3 : Int32))), .val (.int c0), .val (.int c1), .val (.int c2), .val (.int c3), .val (.int qq), .val (.ref x_25), .val (.ref x_26), .val (.ref b27), .unset] [])) tgt
        refine XS.iload X32.here hx rfl (hb hby at_142) rfl ?_
        show Steps p.tables e below (T32.setTop (mkF m 144 #[.val (.int p1), .val (.int p2), .val (.int (2 : Int32)), .val (.int (((p2.toUInt32 >>> ((2 : Int32) &&& 31).toUInt32).toInt32) &&& (3 : Int32))), .val (.int c0), .val (.int c1), .val (.int c2), .val (.int c3), .val (.int qq), .val (.ref x_25), .val (.ref x_26), .val (.ref b27), .unset] [(.int qq)])) tgt
        refine XS.iload X32.here hx rfl (hb hby at_144) rfl ?_
        exact kgo
      by_cases cc33 : qq = c0
      · skip
        refine OwnGoes.step (T' := T32) (g' := (mkF m 184 #[.val (.int p1), .val (.int p2), .val (.int (2 : Int32)), .val (.int (((p2.toUInt32 >>> ((2 : Int32) &&& 31).toUInt32).toInt32) &&& (3 : Int32))), .val (.int c0), .val (.int c1), .val (.int c2), .val (.int c3), .val (.int qq), .val (.ref x_25), .val (.ref x_26), .val (.ref b27), .val (.int (1 : Int32))] [(.int qq), (.ref b27)])) (fun tgt kgo => ?_) ?_
        · show Steps p.tables e below (T32.setTop (mkF m 146 #[.val (.int p1), .val (.int p2), .val (.int (2 : Int32)), .val (.int (((p2.toUInt32 >>> ((2 : Int32) &&& 31).toUInt32).toInt32) &&& (3 : Int32))), .val (.int c0), .val (.int c1), .val (.int c2), .val (.int c3), .val (.int qq), .val (.ref x_25), .val (.ref x_26), .val (.ref b27), .unset] [(.int c0), (.int qq)])) tgt
          refine XS.icmpYes X32.here hx rfl (pc0 := 146) (pc' := 173) rfl (hb hby at_146) rfl (teq cc33).1 (by decide) (by decide) ?_
          show Steps p.tables e below (T32.setTop (mkF m 173 #[.val (.int p1), .val (.int p2), .val (.int (2 : Int32)), .val (.int (((p2.toUInt32 >>> ((2 : Int32) &&& 31).toUInt32).toInt32) &&& (3 : Int32))), .val (.int c0), .val (.int c1), .val (.int c2), .val (.int c3), .val (.int qq), .val (.ref x_25), .val (.ref x_26), .val (.ref b27), .unset] [])) tgt
          refine XS.iconst X32.here hx rfl (hb hby at_173) ?_
          show Steps p.tables e below (T32.setTop (mkF m 174 #[.val (.int p1), .val (.int p2), .val (.int (2 : Int32)), .val (.int (((p2.toUInt32 >>> ((2 : Int32) &&& 31).toUInt32).toInt32) &&& (3 : Int32))), .val (.int c0), .val (.int c1), .val (.int c2), .val (.int c3), .val (.int qq), .val (.ref x_25), .val (.ref x_26), .val (.ref b27), .unset] [(.int (1 : Int32))])) tgt
          refine XS.goto X32.here hx rfl (pc0 := 174) (pc' := 178) rfl (hb hby at_174) (by decide) (by decide) ?_
          show Steps p.tables e below (T32.setTop (mkF m 178 #[.val (.int p1), .val (.int p2), .val (.int (2 : Int32)), .val (.int (((p2.toUInt32 >>> ((2 : Int32) &&& 31).toUInt32).toInt32) &&& (3 : Int32))), .val (.int c0), .val (.int c1), .val (.int c2), .val (.int c3), .val (.int qq), .val (.ref x_25), .val (.ref x_26), .val (.ref b27), .unset] [(.int (1 : Int32))])) tgt
          refine XS.istore X32.here hx rfl (hb hby at_178) rfl (l' := #[.val (.int p1), .val (.int p2), .val (.int (2 : Int32)), .val (.int (((p2.toUInt32 >>> ((2 : Int32) &&& 31).toUInt32).toInt32) &&& (3 : Int32))), .val (.int c0), .val (.int c1), .val (.int c2), .val (.int c3), .val (.int qq), .val (.ref x_25), .val (.ref x_26), .val (.ref b27), .val (.int (1 : Int32))]) rfl ?_
          show Steps p.tables e below (T32.setTop (mkF m 180 #[.val (.int p1), .val (.int p2), .val (.int (2 : Int32)), .val (.int (((p2.toUInt32 >>> ((2 : Int32) &&& 31).toUInt32).toInt32) &&& (3 : Int32))), .val (.int c0), .val (.int c1), .val (.int c2), .val (.int c3), .val (.int qq), .val (.ref x_25), .val (.ref x_26), .val (.ref b27), .val (.int (1 : Int32))] [])) tgt
          refine XS.aload X32.here hx rfl (hb hby at_180) rfl rfl ?_
          show Steps p.tables e below (T32.setTop (mkF m 182 #[.val (.int p1), .val (.int p2), .val (.int (2 : Int32)), .val (.int (((p2.toUInt32 >>> ((2 : Int32) &&& 31).toUInt32).toInt32) &&& (3 : Int32))), .val (.int c0), .val (.int c1), .val (.int c2), .val (.int c3), .val (.int qq), .val (.ref x_25), .val (.ref x_26), .val (.ref b27), .val (.int (1 : Int32))] [(.ref b27)])) tgt
          refine XS.iload X32.here hx rfl (hb hby at_182) rfl ?_
          exact kgo
        obtain ⟨cq34, kq34, q34a, q34b, q34c⟩ := isOf (s := (s.setVm T31.vm)) hZ31 rfl fq32_0
        obtain ⟨_, _, ⟨T34, L34, k34, n34⟩, -, X34, ⟨Lc34, hQ34, l34, y34, z34⟩, st34⟩ := X32.virtualBack hx (y := (⟨"com/example/fieldwright/fieldwright/FieldStructure", "allows", "(C)Z"⟩ : MethodName)) (z := (⟨"com/example/fieldwright/fieldwright/FieldStructure", "allows", "(C)Z"⟩ : MethodName)) ho31 (mvT hZ31 (hw _ (List.mem_of_getElem? (i := 78) rfl))) (mvT hZ31 (hw _ (List.mem_of_getElem? (i := 79) rfl))) (notFace_of_selects (args := #[]) (mvT hZ31 (hw _ (List.mem_of_getElem? (i := 81) rfl)))) (mvT hZ31 (hw _ (List.mem_of_getElem? (i := 81) rfl))) (mvT hZ31 (hw _ (List.mem_of_getElem? (i := 80) rfl))) (by decide) (backOf (W := 0) (rm_alw2 l Z a0 hw [] wG1 wO2 wP5 wG3 wO4 wrG3 hstr hEL T32.heap n0 Ol32 b27 x_25 t_25 k_25 qq c0 c1 fq32_1 F32_199 F32_200 F32_201 F32_202 hz1 hl_c0 hl_c1) hZ31 (hw _ (List.mem_of_getElem? (i := 82) rfl)) (hw _ (List.mem_of_getElem? (i := 50) rfl)) (by decide) (by decide)) q34a q34c (g := (mkF m 184 #[.val (.int p1), .val (.int p2), .val (.int (2 : Int32)), .val (.int (((p2.toUInt32 >>> ((2 : Int32) &&& 31).toUInt32).toInt32) &&& (3 : Int32))), .val (.int c0), .val (.int c1), .val (.int c2), .val (.int c3), .val (.int qq), .val (.ref x_25), .val (.ref x_26), .val (.ref b27), .val (.int (1 : Int32))] [(.int qq), (.ref b27)])) rfl (by rw [hml]; rfl) (Steps.refl _) (argsL := [(.int qq)]) (rest := []) (lenOf pd_92619605 rfl) rfl (by show 2 * 0 + _ ≤ _; exact Nat.le_of_eq rfl) (hb hby at_184) (fun _ _ => ⟨rfl, rfl, (by decide : 14 + 0 ≤ _), (by decide : 75 + 0 ≤ _)⟩)
        dsimp only [Pt.U, Pt.locs, Pt.cells, Pt.slots] at X34 l34 y34 z34 st34 hQ34
        subst l34 y34 z34
        obtain ⟨r_34, rfl, Nq34, eq34, pq34_0⟩ := hQ34
        refine OwnGoes.tr (T' := T34) (g' := (mkF m 187 #[.val (.int p1), .val (.int p2), .val (.int (2 : Int32)), .val (.int (((p2.toUInt32 >>> ((2 : Int32) &&& 31).toUInt32).toInt32) &&& (3 : Int32))), .val (.int c0), .val (.int c1), .val (.int c2), .val (.int c3), .val (.int qq), .val (.ref x_25), .val (.ref x_26), .val (.ref b27), .val (.int (1 : Int32))] [(.int r_34)])) st34 ?_
        have N34 := Fr.app N32 Nq34
        refine OwnGoes.step (T' := T34) (g' := (mkF m 189 #[.val (.int p1), .val (.int p2), .val (.int (2 : Int32)), .val (.int (((p2.toUInt32 >>> ((2 : Int32) &&& 31).toUInt32).toInt32) &&& (3 : Int32))), .val (.int c0), .val (.int c1), .val (.int c2), .val (.int c3), .val (.int qq), .val (.ref x_25), .val (.ref x_26), .val (.ref b27), .val (.int (1 : Int32))] [(.int (1 : Int32)), (.int r_34)])) (fun tgt kgo => ?_) ?_
        · show Steps p.tables e below (T34.setTop (mkF m 187 #[.val (.int p1), .val (.int p2), .val (.int (2 : Int32)), .val (.int (((p2.toUInt32 >>> ((2 : Int32) &&& 31).toUInt32).toInt32) &&& (3 : Int32))), .val (.int c0), .val (.int c1), .val (.int c2), .val (.int c3), .val (.int qq), .val (.ref x_25), .val (.ref x_26), .val (.ref b27), .val (.int (1 : Int32))] [(.int r_34)])) tgt
          refine XS.iload X34.here hx rfl (hb hby at_187) rfl ?_
          exact kgo
        rcases pq34_0 with ⟨hw1, rfl⟩ | ⟨hw1, rfl⟩
        · skip
          refine OwnGoes.step (T' := T34) (g' := (mkF m 197 #[.val (.int p1), .val (.int p2), .val (.int (2 : Int32)), .val (.int (((p2.toUInt32 >>> ((2 : Int32) &&& 31).toUInt32).toInt32) &&& (3 : Int32))), .val (.int c0), .val (.int c1), .val (.int c2), .val (.int c3), .val (.int qq), .val (.ref x_25), .val (.ref x_26), .val (.ref b27), .val (.int (1 : Int32))] [(.int (1 : Int32))])) (fun tgt kgo => ?_) ?_
          · show Steps p.tables e below (T34.setTop (mkF m 189 #[.val (.int p1), .val (.int p2), .val (.int (2 : Int32)), .val (.int (((p2.toUInt32 >>> ((2 : Int32) &&& 31).toUInt32).toInt32) &&& (3 : Int32))), .val (.int c0), .val (.int c1), .val (.int c2), .val (.int c3), .val (.int qq), .val (.ref x_25), .val (.ref x_26), .val (.ref b27), .val (.int (1 : Int32))] [(.int (1 : Int32)), (.int 1)])) tgt
            refine XS.icmpNo X34.here hx rfl (hb hby at_189) rfl (teq rfl).2 ?_
            show Steps p.tables e below (T34.setTop (mkF m 192 #[.val (.int p1), .val (.int p2), .val (.int (2 : Int32)), .val (.int (((p2.toUInt32 >>> ((2 : Int32) &&& 31).toUInt32).toInt32) &&& (3 : Int32))), .val (.int c0), .val (.int c1), .val (.int c2), .val (.int c3), .val (.int qq), .val (.ref x_25), .val (.ref x_26), .val (.ref b27), .val (.int (1 : Int32))] [])) tgt
            refine XS.iconst X34.here hx rfl (hb hby at_192) ?_
            show Steps p.tables e below (T34.setTop (mkF m 193 #[.val (.int p1), .val (.int p2), .val (.int (2 : Int32)), .val (.int (((p2.toUInt32 >>> ((2 : Int32) &&& 31).toUInt32).toInt32) &&& (3 : Int32))), .val (.int c0), .val (.int c1), .val (.int c2), .val (.int c3), .val (.int qq), .val (.ref x_25), .val (.ref x_26), .val (.ref b27), .val (.int (1 : Int32))] [(.int (1 : Int32))])) tgt
            refine XS.goto X34.here hx rfl (pc0 := 193) (pc' := 197) rfl (hb hby at_193) (by decide) (by decide) ?_
            exact kgo
          refine own_leaveW (Z := Z) (EL := consts_1) X34 hS31 (eq34 ▸ hk32) hlk (v := some (.int (1 : Int32))) (fun h => by rw [Bd.returns] at h; cases h) (fun fs hr => retN X34 hx (t := .boolean) Bd.returns (by simp) (hb hby at_197) (by rw [(by decide : nar .boolean (1 : Int32) = (1 : Int32))]; exact hr)) (by decide) (by decide) ?_ ?_
          · rw [hh, eq34]
            exact R32.trans (CHv.at X34 hZ31 hEL R32.1)
          show Q_law Z p1 p2 h0 n0 _ T34.heap _
          rw [eq34]
          exact ⟨rfl, N34⟩
        · skip
          exact absurd (Or.inl cc33) hw1
      · skip
        refine OwnGoes.step (T' := T32) (g' := (mkF m 158 #[.val (.int p1), .val (.int p2), .val (.int (2 : Int32)), .val (.int (((p2.toUInt32 >>> ((2 : Int32) &&& 31).toUInt32).toInt32) &&& (3 : Int32))), .val (.int c0), .val (.int c1), .val (.int c2), .val (.int c3), .val (.int qq), .val (.ref x_25), .val (.ref x_26), .val (.ref b27), .unset] [(.int c1), (.int qq)])) (fun tgt kgo => ?_) ?_
        · show Steps p.tables e below (T32.setTop (mkF m 146 #[.val (.int p1), .val (.int p2), .val (.int (2 : Int32)), .val (.int (((p2.toUInt32 >>> ((2 : Int32) &&& 31).toUInt32).toInt32) &&& (3 : Int32))), .val (.int c0), .val (.int c1), .val (.int c2), .val (.int c3), .val (.int qq), .val (.ref x_25), .val (.ref x_26), .val (.ref b27), .unset] [(.int c0), (.int qq)])) tgt
          refine XS.icmpNo X32.here hx rfl (hb hby at_146) rfl (feq cc33).1 ?_
          show Steps p.tables e below (T32.setTop (mkF m 149 #[.val (.int p1), .val (.int p2), .val (.int (2 : Int32)), .val (.int (((p2.toUInt32 >>> ((2 : Int32) &&& 31).toUInt32).toInt32) &&& (3 : Int32))), .val (.int c0), .val (.int c1), .val (.int c2), .val (.int c3), .val (.int qq), .val (.ref x_25), .val (.ref x_26), .val (.ref b27), .unset] [])) tgt
          refine XS.iloadN X32.here hx rfl (hb hby at_149) rfl ?_
          show Steps p.tables e below (T32.setTop (mkF m 150 #[.val (.int p1), .val (.int p2), .val (.int (2 : Int32)), .val (.int (((p2.toUInt32 >>> ((2 : Int32) &&& 31).toUInt32).toInt32) &&& (3 : Int32))), .val (.int c0), .val (.int c1), .val (.int c2), .val (.int c3), .val (.int qq), .val (.ref x_25), .val (.ref x_26), .val (.ref b27), .unset] [(.int (2 : Int32))])) tgt
          refine XS.iconst X32.here hx rfl (hb hby at_150) ?_
          show Steps p.tables e below (T32.setTop (mkF m 151 #[.val (.int p1), .val (.int p2), .val (.int (2 : Int32)), .val (.int (((p2.toUInt32 >>> ((2 : Int32) &&& 31).toUInt32).toInt32) &&& (3 : Int32))), .val (.int c0), .val (.int c1), .val (.int c2), .val (.int c3), .val (.int qq), .val (.ref x_25), .val (.ref x_26), .val (.ref b27), .unset] [(.int (2 : Int32)), (.int (2 : Int32))])) tgt
          refine XS.icmpNo X32.here hx rfl (hb hby at_151) rfl (flt (by decide : ¬ ((2 : Int32) < (2 : Int32)))).1 ?_
          show Steps p.tables e below (T32.setTop (mkF m 154 #[.val (.int p1), .val (.int p2), .val (.int (2 : Int32)), .val (.int (((p2.toUInt32 >>> ((2 : Int32) &&& 31).toUInt32).toInt32) &&& (3 : Int32))), .val (.int c0), .val (.int c1), .val (.int c2), .val (.int c3), .val (.int qq), .val (.ref x_25), .val (.ref x_26), .val (.ref b27), .unset] [])) tgt
          refine XS.iload X32.here hx rfl (hb hby at_154) rfl ?_
          show Steps p.tables e below (T32.setTop (mkF m 156 #[.val (.int p1), .val (.int p2), .val (.int (2 : Int32)), .val (.int (((p2.toUInt32 >>> ((2 : Int32) &&& 31).toUInt32).toInt32) &&& (3 : Int32))), .val (.int c0), .val (.int c1), .val (.int c2), .val (.int c3), .val (.int qq), .val (.ref x_25), .val (.ref x_26), .val (.ref b27), .unset] [(.int qq)])) tgt
          refine XS.iload X32.here hx rfl (hb hby at_156) rfl ?_
          exact kgo
        by_cases cc36 : qq = c1
        · skip
          refine OwnGoes.step (T' := T32) (g' := (mkF m 184 #[.val (.int p1), .val (.int p2), .val (.int (2 : Int32)), .val (.int (((p2.toUInt32 >>> ((2 : Int32) &&& 31).toUInt32).toInt32) &&& (3 : Int32))), .val (.int c0), .val (.int c1), .val (.int c2), .val (.int c3), .val (.int qq), .val (.ref x_25), .val (.ref x_26), .val (.ref b27), .val (.int (1 : Int32))] [(.int qq), (.ref b27)])) (fun tgt kgo => ?_) ?_
          · show Steps p.tables e below (T32.setTop (mkF m 158 #[.val (.int p1), .val (.int p2), .val (.int (2 : Int32)), .val (.int (((p2.toUInt32 >>> ((2 : Int32) &&& 31).toUInt32).toInt32) &&& (3 : Int32))), .val (.int c0), .val (.int c1), .val (.int c2), .val (.int c3), .val (.int qq), .val (.ref x_25), .val (.ref x_26), .val (.ref b27), .unset] [(.int c1), (.int qq)])) tgt
            refine XS.icmpYes X32.here hx rfl (pc0 := 158) (pc' := 173) rfl (hb hby at_158) rfl (teq cc36).1 (by decide) (by decide) ?_
            show Steps p.tables e below (T32.setTop (mkF m 173 #[.val (.int p1), .val (.int p2), .val (.int (2 : Int32)), .val (.int (((p2.toUInt32 >>> ((2 : Int32) &&& 31).toUInt32).toInt32) &&& (3 : Int32))), .val (.int c0), .val (.int c1), .val (.int c2), .val (.int c3), .val (.int qq), .val (.ref x_25), .val (.ref x_26), .val (.ref b27), .unset] [])) tgt
            refine XS.iconst X32.here hx rfl (hb hby at_173) ?_
            show Steps p.tables e below (T32.setTop (mkF m 174 #[.val (.int p1), .val (.int p2), .val (.int (2 : Int32)), .val (.int (((p2.toUInt32 >>> ((2 : Int32) &&& 31).toUInt32).toInt32) &&& (3 : Int32))), .val (.int c0), .val (.int c1), .val (.int c2), .val (.int c3), .val (.int qq), .val (.ref x_25), .val (.ref x_26), .val (.ref b27), .unset] [(.int (1 : Int32))])) tgt
            refine XS.goto X32.here hx rfl (pc0 := 174) (pc' := 178) rfl (hb hby at_174) (by decide) (by decide) ?_
            show Steps p.tables e below (T32.setTop (mkF m 178 #[.val (.int p1), .val (.int p2), .val (.int (2 : Int32)), .val (.int (((p2.toUInt32 >>> ((2 : Int32) &&& 31).toUInt32).toInt32) &&& (3 : Int32))), .val (.int c0), .val (.int c1), .val (.int c2), .val (.int c3), .val (.int qq), .val (.ref x_25), .val (.ref x_26), .val (.ref b27), .unset] [(.int (1 : Int32))])) tgt
            refine XS.istore X32.here hx rfl (hb hby at_178) rfl (l' := #[.val (.int p1), .val (.int p2), .val (.int (2 : Int32)), .val (.int (((p2.toUInt32 >>> ((2 : Int32) &&& 31).toUInt32).toInt32) &&& (3 : Int32))), .val (.int c0), .val (.int c1), .val (.int c2), .val (.int c3), .val (.int qq), .val (.ref x_25), .val (.ref x_26), .val (.ref b27), .val (.int (1 : Int32))]) rfl ?_
            show Steps p.tables e below (T32.setTop (mkF m 180 #[.val (.int p1), .val (.int p2), .val (.int (2 : Int32)), .val (.int (((p2.toUInt32 >>> ((2 : Int32) &&& 31).toUInt32).toInt32) &&& (3 : Int32))), .val (.int c0), .val (.int c1), .val (.int c2), .val (.int c3), .val (.int qq), .val (.ref x_25), .val (.ref x_26), .val (.ref b27), .val (.int (1 : Int32))] [])) tgt
            refine XS.aload X32.here hx rfl (hb hby at_180) rfl rfl ?_
            show Steps p.tables e below (T32.setTop (mkF m 182 #[.val (.int p1), .val (.int p2), .val (.int (2 : Int32)), .val (.int (((p2.toUInt32 >>> ((2 : Int32) &&& 31).toUInt32).toInt32) &&& (3 : Int32))), .val (.int c0), .val (.int c1), .val (.int c2), .val (.int c3), .val (.int qq), .val (.ref x_25), .val (.ref x_26), .val (.ref b27), .val (.int (1 : Int32))] [(.ref b27)])) tgt
            refine XS.iload X32.here hx rfl (hb hby at_182) rfl ?_
            exact kgo
          obtain ⟨cq37, kq37, q37a, q37b, q37c⟩ := isOf (s := (s.setVm T31.vm)) hZ31 rfl fq32_0
          obtain ⟨_, _, ⟨T37, L37, k37, n37⟩, -, X37, ⟨Lc37, hQ37, l37, y37, z37⟩, st37⟩ := X32.virtualBack hx (y := (⟨"com/example/fieldwright/fieldwright/FieldStructure", "allows", "(C)Z"⟩ : MethodName)) (z := (⟨"com/example/fieldwright/fieldwright/FieldStructure", "allows", "(C)Z"⟩ : MethodName)) ho31 (mvT hZ31 (hw _ (List.mem_of_getElem? (i := 78) rfl))) (mvT hZ31 (hw _ (List.mem_of_getElem? (i := 79) rfl))) (notFace_of_selects (args := #[]) (mvT hZ31 (hw _ (List.mem_of_getElem? (i := 81) rfl)))) (mvT hZ31 (hw _ (List.mem_of_getElem? (i := 81) rfl))) (mvT hZ31 (hw _ (List.mem_of_getElem? (i := 80) rfl))) (by decide) (backOf (W := 0) (rm_alw2 l Z a0 hw [] wG1 wO2 wP5 wG3 wO4 wrG3 hstr hEL T32.heap n0 Ol32 b27 x_25 t_25 k_25 qq c0 c1 fq32_1 F32_199 F32_200 F32_201 F32_202 hz1 hl_c0 hl_c1) hZ31 (hw _ (List.mem_of_getElem? (i := 82) rfl)) (hw _ (List.mem_of_getElem? (i := 50) rfl)) (by decide) (by decide)) q37a q37c (g := (mkF m 184 #[.val (.int p1), .val (.int p2), .val (.int (2 : Int32)), .val (.int (((p2.toUInt32 >>> ((2 : Int32) &&& 31).toUInt32).toInt32) &&& (3 : Int32))), .val (.int c0), .val (.int c1), .val (.int c2), .val (.int c3), .val (.int qq), .val (.ref x_25), .val (.ref x_26), .val (.ref b27), .val (.int (1 : Int32))] [(.int qq), (.ref b27)])) rfl (by rw [hml]; rfl) (Steps.refl _) (argsL := [(.int qq)]) (rest := []) (lenOf pd_92619605 rfl) rfl (by show 2 * 0 + _ ≤ _; exact Nat.le_of_eq rfl) (hb hby at_184) (fun _ _ => ⟨rfl, rfl, (by decide : 14 + 0 ≤ _), (by decide : 75 + 0 ≤ _)⟩)
          dsimp only [Pt.U, Pt.locs, Pt.cells, Pt.slots] at X37 l37 y37 z37 st37 hQ37
          subst l37 y37 z37
          obtain ⟨r_37, rfl, Nq37, eq37, pq37_0⟩ := hQ37
          refine OwnGoes.tr (T' := T37) (g' := (mkF m 187 #[.val (.int p1), .val (.int p2), .val (.int (2 : Int32)), .val (.int (((p2.toUInt32 >>> ((2 : Int32) &&& 31).toUInt32).toInt32) &&& (3 : Int32))), .val (.int c0), .val (.int c1), .val (.int c2), .val (.int c3), .val (.int qq), .val (.ref x_25), .val (.ref x_26), .val (.ref b27), .val (.int (1 : Int32))] [(.int r_37)])) st37 ?_
          have N37 := Fr.app N32 Nq37
          refine OwnGoes.step (T' := T37) (g' := (mkF m 189 #[.val (.int p1), .val (.int p2), .val (.int (2 : Int32)), .val (.int (((p2.toUInt32 >>> ((2 : Int32) &&& 31).toUInt32).toInt32) &&& (3 : Int32))), .val (.int c0), .val (.int c1), .val (.int c2), .val (.int c3), .val (.int qq), .val (.ref x_25), .val (.ref x_26), .val (.ref b27), .val (.int (1 : Int32))] [(.int (1 : Int32)), (.int r_37)])) (fun tgt kgo => ?_) ?_
          · show Steps p.tables e below (T37.setTop (mkF m 187 #[.val (.int p1), .val (.int p2), .val (.int (2 : Int32)), .val (.int (((p2.toUInt32 >>> ((2 : Int32) &&& 31).toUInt32).toInt32) &&& (3 : Int32))), .val (.int c0), .val (.int c1), .val (.int c2), .val (.int c3), .val (.int qq), .val (.ref x_25), .val (.ref x_26), .val (.ref b27), .val (.int (1 : Int32))] [(.int r_37)])) tgt
            refine XS.iload X37.here hx rfl (hb hby at_187) rfl ?_
            exact kgo
          rcases pq37_0 with ⟨hw1, rfl⟩ | ⟨hw1, rfl⟩
          · skip
            refine OwnGoes.step (T' := T37) (g' := (mkF m 197 #[.val (.int p1), .val (.int p2), .val (.int (2 : Int32)), .val (.int (((p2.toUInt32 >>> ((2 : Int32) &&& 31).toUInt32).toInt32) &&& (3 : Int32))), .val (.int c0), .val (.int c1), .val (.int c2), .val (.int c3), .val (.int qq), .val (.ref x_25), .val (.ref x_26), .val (.ref b27), .val (.int (1 : Int32))] [(.int (1 : Int32))])) (fun tgt kgo => ?_) ?_
            · show Steps p.tables e below (T37.setTop (mkF m 189 #[.val (.int p1), .val (.int p2), .val (.int (2 : Int32)), .val (.int (((p2.toUInt32 >>> ((2 : Int32) &&& 31).toUInt32).toInt32) &&& (3 : Int32))), .val (.int c0), .val (.int c1), .val (.int c2), .val (.int c3), .val (.int qq), .val (.ref x_25), .val (.ref x_26), .val (.ref b27), .val (.int (1 : Int32))] [(.int (1 : Int32)), (.int 1)])) tgt
              refine XS.icmpNo X37.here hx rfl (hb hby at_189) rfl (teq rfl).2 ?_
              show Steps p.tables e below (T37.setTop (mkF m 192 #[.val (.int p1), .val (.int p2), .val (.int (2 : Int32)), .val (.int (((p2.toUInt32 >>> ((2 : Int32) &&& 31).toUInt32).toInt32) &&& (3 : Int32))), .val (.int c0), .val (.int c1), .val (.int c2), .val (.int c3), .val (.int qq), .val (.ref x_25), .val (.ref x_26), .val (.ref b27), .val (.int (1 : Int32))] [])) tgt
              refine XS.iconst X37.here hx rfl (hb hby at_192) ?_
              show Steps p.tables e below (T37.setTop (mkF m 193 #[.val (.int p1), .val (.int p2), .val (.int (2 : Int32)), .val (.int (((p2.toUInt32 >>> ((2 : Int32) &&& 31).toUInt32).toInt32) &&& (3 : Int32))), .val (.int c0), .val (.int c1), .val (.int c2), .val (.int c3), .val (.int qq), .val (.ref x_25), .val (.ref x_26), .val (.ref b27), .val (.int (1 : Int32))] [(.int (1 : Int32))])) tgt
              refine XS.goto X37.here hx rfl (pc0 := 193) (pc' := 197) rfl (hb hby at_193) (by decide) (by decide) ?_
              exact kgo
            refine own_leaveW (Z := Z) (EL := consts_1) X37 hS31 (eq37 ▸ hk32) hlk (v := some (.int (1 : Int32))) (fun h => by rw [Bd.returns] at h; cases h) (fun fs hr => retN X37 hx (t := .boolean) Bd.returns (by simp) (hb hby at_197) (by rw [(by decide : nar .boolean (1 : Int32) = (1 : Int32))]; exact hr)) (by decide) (by decide) ?_ ?_
            · rw [hh, eq37]
              exact R32.trans (CHv.at X37 hZ31 hEL R32.1)
            show Q_law Z p1 p2 h0 n0 _ T37.heap _
            rw [eq37]
            exact ⟨rfl, N37⟩
          · skip
            exact absurd (Or.inr cc36) hw1
        · skip
          refine OwnGoes.step (T' := T32) (g' := (mkF m 184 #[.val (.int p1), .val (.int p2), .val (.int (2 : Int32)), .val (.int (((p2.toUInt32 >>> ((2 : Int32) &&& 31).toUInt32).toInt32) &&& (3 : Int32))), .val (.int c0), .val (.int c1), .val (.int c2), .val (.int c3), .val (.int qq), .val (.ref x_25), .val (.ref x_26), .val (.ref b27), .val (.int (0 : Int32))] [(.int qq), (.ref b27)])) (fun tgt kgo => ?_) ?_
          · show Steps p.tables e below (T32.setTop (mkF m 158 #[.val (.int p1), .val (.int p2), .val (.int (2 : Int32)), .val (.int (((p2.toUInt32 >>> ((2 : Int32) &&& 31).toUInt32).toInt32) &&& (3 : Int32))), .val (.int c0), .val (.int c1), .val (.int c2), .val (.int c3), .val (.int qq), .val (.ref x_25), .val (.ref x_26), .val (.ref b27), .unset] [(.int c1), (.int qq)])) tgt
            refine XS.icmpNo X32.here hx rfl (hb hby at_158) rfl (feq cc36).1 ?_
            show Steps p.tables e below (T32.setTop (mkF m 161 #[.val (.int p1), .val (.int p2), .val (.int (2 : Int32)), .val (.int (((p2.toUInt32 >>> ((2 : Int32) &&& 31).toUInt32).toInt32) &&& (3 : Int32))), .val (.int c0), .val (.int c1), .val (.int c2), .val (.int c3), .val (.int qq), .val (.ref x_25), .val (.ref x_26), .val (.ref b27), .unset] [])) tgt
            refine XS.iloadN X32.here hx rfl (hb hby at_161) rfl ?_
            show Steps p.tables e below (T32.setTop (mkF m 162 #[.val (.int p1), .val (.int p2), .val (.int (2 : Int32)), .val (.int (((p2.toUInt32 >>> ((2 : Int32) &&& 31).toUInt32).toInt32) &&& (3 : Int32))), .val (.int c0), .val (.int c1), .val (.int c2), .val (.int c3), .val (.int qq), .val (.ref x_25), .val (.ref x_26), .val (.ref b27), .unset] [(.int (2 : Int32))])) tgt
            refine XS.iconst X32.here hx rfl (hb hby at_162) ?_
            show Steps p.tables e below (T32.setTop (mkF m 163 #[.val (.int p1), .val (.int p2), .val (.int (2 : Int32)), .val (.int (((p2.toUInt32 >>> ((2 : Int32) &&& 31).toUInt32).toInt32) &&& (3 : Int32))), .val (.int c0), .val (.int c1), .val (.int c2), .val (.int c3), .val (.int qq), .val (.ref x_25), .val (.ref x_26), .val (.ref b27), .unset] [(.int (3 : Int32)), (.int (2 : Int32))])) tgt
            refine XS.icmpYes X32.here hx rfl (pc0 := 163) (pc' := 177) rfl (hb hby at_163) rfl (tlt (by decide : (2 : Int32) < (3 : Int32))).1 (by decide) (by decide) ?_
            show Steps p.tables e below (T32.setTop (mkF m 177 #[.val (.int p1), .val (.int p2), .val (.int (2 : Int32)), .val (.int (((p2.toUInt32 >>> ((2 : Int32) &&& 31).toUInt32).toInt32) &&& (3 : Int32))), .val (.int c0), .val (.int c1), .val (.int c2), .val (.int c3), .val (.int qq), .val (.ref x_25), .val (.ref x_26), .val (.ref b27), .unset] [])) tgt
            refine XS.iconst X32.here hx rfl (hb hby at_177) ?_
            show Steps p.tables e below (T32.setTop (mkF m 178 #[.val (.int p1), .val (.int p2), .val (.int (2 : Int32)), .val (.int (((p2.toUInt32 >>> ((2 : Int32) &&& 31).toUInt32).toInt32) &&& (3 : Int32))), .val (.int c0), .val (.int c1), .val (.int c2), .val (.int c3), .val (.int qq), .val (.ref x_25), .val (.ref x_26), .val (.ref b27), .unset] [(.int (0 : Int32))])) tgt
            refine XS.istore X32.here hx rfl (hb hby at_178) rfl (l' := #[.val (.int p1), .val (.int p2), .val (.int (2 : Int32)), .val (.int (((p2.toUInt32 >>> ((2 : Int32) &&& 31).toUInt32).toInt32) &&& (3 : Int32))), .val (.int c0), .val (.int c1), .val (.int c2), .val (.int c3), .val (.int qq), .val (.ref x_25), .val (.ref x_26), .val (.ref b27), .val (.int (0 : Int32))]) rfl ?_
            show Steps p.tables e below (T32.setTop (mkF m 180 #[.val (.int p1), .val (.int p2), .val (.int (2 : Int32)), .val (.int (((p2.toUInt32 >>> ((2 : Int32) &&& 31).toUInt32).toInt32) &&& (3 : Int32))), .val (.int c0), .val (.int c1), .val (.int c2), .val (.int c3), .val (.int qq), .val (.ref x_25), .val (.ref x_26), .val (.ref b27), .val (.int (0 : Int32))] [])) tgt
            refine XS.aload X32.here hx rfl (hb hby at_180) rfl rfl ?_
            show Steps p.tables e below (T32.setTop (mkF m 182 #[.val (.int p1), .val (.int p2), .val (.int (2 : Int32)), .val (.int (((p2.toUInt32 >>> ((2 : Int32) &&& 31).toUInt32).toInt32) &&& (3 : Int32))), .val (.int c0), .val (.int c1), .val (.int c2), .val (.int c3), .val (.int qq), .val (.ref x_25), .val (.ref x_26), .val (.ref b27), .val (.int (0 : Int32))] [(.ref b27)])) tgt
            refine XS.iload X32.here hx rfl (hb hby at_182) rfl ?_
            exact kgo
          obtain ⟨cq39, kq39, q39a, q39b, q39c⟩ := isOf (s := (s.setVm T31.vm)) hZ31 rfl fq32_0
          obtain ⟨_, _, ⟨T39, L39, k39, n39⟩, -, X39, ⟨Lc39, hQ39, l39, y39, z39⟩, st39⟩ := X32.virtualBack hx (y := (⟨"com/example/fieldwright/fieldwright/FieldStructure", "allows", "(C)Z"⟩ : MethodName)) (z := (⟨"com/example/fieldwright/fieldwright/FieldStructure", "allows", "(C)Z"⟩ : MethodName)) ho31 (mvT hZ31 (hw _ (List.mem_of_getElem? (i := 78) rfl))) (mvT hZ31 (hw _ (List.mem_of_getElem? (i := 79) rfl))) (notFace_of_selects (args := #[]) (mvT hZ31 (hw _ (List.mem_of_getElem? (i := 81) rfl)))) (mvT hZ31 (hw _ (List.mem_of_getElem? (i := 81) rfl))) (mvT hZ31 (hw _ (List.mem_of_getElem? (i := 80) rfl))) (by decide) (backOf (W := 0) (rm_alw2 l Z a0 hw [] wG1 wO2 wP5 wG3 wO4 wrG3 hstr hEL T32.heap n0 Ol32 b27 x_25 t_25 k_25 qq c0 c1 fq32_1 F32_199 F32_200 F32_201 F32_202 hz1 hl_c0 hl_c1) hZ31 (hw _ (List.mem_of_getElem? (i := 82) rfl)) (hw _ (List.mem_of_getElem? (i := 50) rfl)) (by decide) (by decide)) q39a q39c (g := (mkF m 184 #[.val (.int p1), .val (.int p2), .val (.int (2 : Int32)), .val (.int (((p2.toUInt32 >>> ((2 : Int32) &&& 31).toUInt32).toInt32) &&& (3 : Int32))), .val (.int c0), .val (.int c1), .val (.int c2), .val (.int c3), .val (.int qq), .val (.ref x_25), .val (.ref x_26), .val (.ref b27), .val (.int (0 : Int32))] [(.int qq), (.ref b27)])) rfl (by rw [hml]; rfl) (Steps.refl _) (argsL := [(.int qq)]) (rest := []) (lenOf pd_92619605 rfl) rfl (by show 2 * 0 + _ ≤ _; exact Nat.le_of_eq rfl) (hb hby at_184) (fun _ _ => ⟨rfl, rfl, (by decide : 14 + 0 ≤ _), (by decide : 75 + 0 ≤ _)⟩)
          dsimp only [Pt.U, Pt.locs, Pt.cells, Pt.slots] at X39 l39 y39 z39 st39 hQ39
          subst l39 y39 z39
          obtain ⟨r_39, rfl, Nq39, eq39, pq39_0⟩ := hQ39
          refine OwnGoes.tr (T' := T39) (g' := (mkF m 187 #[.val (.int p1), .val (.int p2), .val (.int (2 : Int32)), .val (.int (((p2.toUInt32 >>> ((2 : Int32) &&& 31).toUInt32).toInt32) &&& (3 : Int32))), .val (.int c0), .val (.int c1), .val (.int c2), .val (.int c3), .val (.int qq), .val (.ref x_25), .val (.ref x_26), .val (.ref b27), .val (.int (0 : Int32))] [(.int r_39)])) st39 ?_
          have N39 := Fr.app N32 Nq39
          refine OwnGoes.step (T' := T39) (g' := (mkF m 189 #[.val (.int p1), .val (.int p2), .val (.int (2 : Int32)), .val (.int (((p2.toUInt32 >>> ((2 : Int32) &&& 31).toUInt32).toInt32) &&& (3 : Int32))), .val (.int c0), .val (.int c1), .val (.int c2), .val (.int c3), .val (.int qq), .val (.ref x_25), .val (.ref x_26), .val (.ref b27), .val (.int (0 : Int32))] [(.int (0 : Int32)), (.int r_39)])) (fun tgt kgo => ?_) ?_
          · show Steps p.tables e below (T39.setTop (mkF m 187 #[.val (.int p1), .val (.int p2), .val (.int (2 : Int32)), .val (.int (((p2.toUInt32 >>> ((2 : Int32) &&& 31).toUInt32).toInt32) &&& (3 : Int32))), .val (.int c0), .val (.int c1), .val (.int c2), .val (.int c3), .val (.int qq), .val (.ref x_25), .val (.ref x_26), .val (.ref b27), .val (.int (0 : Int32))] [(.int r_39)])) tgt
            refine XS.iload X39.here hx rfl (hb hby at_187) rfl ?_
            exact kgo
          rcases pq39_0 with ⟨hw1, rfl⟩ | ⟨hw1, rfl⟩
          · skip
            exfalso
            rcases hw1 with hz | hz
            · exact cc33 hz
            · exact cc36 hz
          · skip
            refine OwnGoes.step (T' := T39) (g' := (mkF m 197 #[.val (.int p1), .val (.int p2), .val (.int (2 : Int32)), .val (.int (((p2.toUInt32 >>> ((2 : Int32) &&& 31).toUInt32).toInt32) &&& (3 : Int32))), .val (.int c0), .val (.int c1), .val (.int c2), .val (.int c3), .val (.int qq), .val (.ref x_25), .val (.ref x_26), .val (.ref b27), .val (.int (0 : Int32))] [(.int (1 : Int32))])) (fun tgt kgo => ?_) ?_
            · show Steps p.tables e below (T39.setTop (mkF m 189 #[.val (.int p1), .val (.int p2), .val (.int (2 : Int32)), .val (.int (((p2.toUInt32 >>> ((2 : Int32) &&& 31).toUInt32).toInt32) &&& (3 : Int32))), .val (.int c0), .val (.int c1), .val (.int c2), .val (.int c3), .val (.int qq), .val (.ref x_25), .val (.ref x_26), .val (.ref b27), .val (.int (0 : Int32))] [(.int (0 : Int32)), (.int 0)])) tgt
              refine XS.icmpNo X39.here hx rfl (hb hby at_189) rfl (teq rfl).2 ?_
              show Steps p.tables e below (T39.setTop (mkF m 192 #[.val (.int p1), .val (.int p2), .val (.int (2 : Int32)), .val (.int (((p2.toUInt32 >>> ((2 : Int32) &&& 31).toUInt32).toInt32) &&& (3 : Int32))), .val (.int c0), .val (.int c1), .val (.int c2), .val (.int c3), .val (.int qq), .val (.ref x_25), .val (.ref x_26), .val (.ref b27), .val (.int (0 : Int32))] [])) tgt
              refine XS.iconst X39.here hx rfl (hb hby at_192) ?_
              show Steps p.tables e below (T39.setTop (mkF m 193 #[.val (.int p1), .val (.int p2), .val (.int (2 : Int32)), .val (.int (((p2.toUInt32 >>> ((2 : Int32) &&& 31).toUInt32).toInt32) &&& (3 : Int32))), .val (.int c0), .val (.int c1), .val (.int c2), .val (.int c3), .val (.int qq), .val (.ref x_25), .val (.ref x_26), .val (.ref b27), .val (.int (0 : Int32))] [(.int (1 : Int32))])) tgt
              refine XS.goto X39.here hx rfl (pc0 := 193) (pc' := 197) rfl (hb hby at_193) (by decide) (by decide) ?_
              exact kgo
            refine own_leaveW (Z := Z) (EL := consts_1) X39 hS31 (eq39 ▸ hk32) hlk (v := some (.int (1 : Int32))) (fun h => by rw [Bd.returns] at h; cases h) (fun fs hr => retN X39 hx (t := .boolean) Bd.returns (by simp) (hb hby at_197) (by rw [(by decide : nar .boolean (1 : Int32) = (1 : Int32))]; exact hr)) (by decide) (by decide) ?_ ?_
            · rw [hh, eq39]
              exact R32.trans (CHv.at X39 hZ31 hEL R32.1)
            show Q_law Z p1 p2 h0 n0 _ T39.heap _
            rw [eq39]
            exact ⟨rfl, N39⟩
    · skip
      rw [hn3]
      obtain ⟨_, _, ⟨T41, L41, k41, n41⟩, -, X41, ⟨Lc41, hQ41, l41, y41, z41⟩, st41⟩ := Jvm.LawKit.callS X0 hx (y := (⟨"com/example/fieldwright/fieldwright/FieldStructureAllowsPinLaw", "subs", "(ICCC)Ljava/lang/String;"⟩ : MethodName)) hown (mvT hZ (hw _ (List.mem_of_getElem? (i := 0) rfl))) (mvT hZ (hw _ (List.mem_of_getElem? (i := 1) rfl))) (mvT hZ (hw _ (List.mem_of_getElem? (i := 2) rfl))) (mvT hZ (hw _ (List.mem_of_getElem? (i := 3) rfl))) (by decide) (backOf (W := 0) (rm_subs3 l Z a0 hw [] wG1 wO2 wP5 wG3 wO4 wrG3 hstr hEL h0 n0 X00 c0 c1 c2 hl_c0 hl_c1 hl_c2) hZ (hw _ (List.mem_of_getElem? (i := 3) rfl)) (hw _ (List.mem_of_getElem? (i := 2) rfl)) (by decide) (by decide)) (g := (mkF m 97 #[.val (.int p1), .val (.int p2), .val (.int (3 : Int32)), .val (.int (((p2.toUInt32 >>> ((2 : Int32) &&& 31).toUInt32).toInt32) &&& (3 : Int32))), .val (.int c0), .val (.int c1), .val (.int c2), .val (.int c3), .val (.int qq), .unset, .unset, .unset, .unset] [(.int c2), (.int c1), (.int c0), (.int (3 : Int32))])) rfl (by rw [hml]; rfl) (argsL := [(.int (3 : Int32)), (.int c0), (.int c1), (.int c2)]) (rest := []) (lenOf pd_31847132 rfl) rfl (by show 2 * 0 + _ ≤ _; exact Nat.le_of_eq rfl) (hb hby at_97) (fun _ _ => ⟨rfl, e0, (by decide : 0 + 3 ≤ _), (by decide : 0 + 10 ≤ _)⟩)
      dsimp only [Pt.U, Pt.locs, Pt.cells, Pt.slots] at X41 l41 y41 z41 st41 hQ41
      subst l41 y41 z41
      obtain ⟨x_41, t_41, k_41, rfl, Nq41, Kq41, zq41_0, fq41_0, fq41_1, fq41_2, fq41_3⟩ := hQ41
      refine OwnGoes.step (T' := T41) (g' := (mkF m 100 #[.val (.int p1), .val (.int p2), .val (.int (3 : Int32)), .val (.int (((p2.toUInt32 >>> ((2 : Int32) &&& 31).toUInt32).toInt32) &&& (3 : Int32))), .val (.int c0), .val (.int c1), .val (.int c2), .val (.int c3), .val (.int qq), .unset, .unset, .unset, .unset] [(.ref x_41)])) st41 ?_
      have N41 := Fr.app N0 Nq41
      have g_x_41 : n0 ≤ x_41 := Nat.le_trans (Nat.le_trans Z0 K0.1) zq41_0
      have s_x_41 : h0.size ≤ x_41 := Nat.le_trans K0.1 zq41_0
      have Ol41 := X00.keep Kq41 all0
      have K41 : Keep h0 T41.heap ([] : List Addr) := K0.trans Kq41 all0
      have R41 := R0.trans (CHr.keep Kq41 sf0 R0.1)
      have hk41 := Nat.le_trans hk0 Kq41.1
      refine OwnGoes.step (T' := T41) (g' := (mkF m 111 #[.val (.int p1), .val (.int p2), .val (.int (3 : Int32)), .val (.int (((p2.toUInt32 >>> ((2 : Int32) &&& 31).toUInt32).toInt32) &&& (3 : Int32))), .val (.int c0), .val (.int c1), .val (.int c2), .val (.int c3), .val (.int qq), .val (.ref x_41), .unset, .unset, .unset] [(.int (nar .char (((p2.toUInt32 >>> ((8 : Int32) &&& 31).toUInt32).toInt32) &&& (255 : Int32))))])) (fun tgt kgo => ?_) ?_
      · show Steps p.tables e below (T41.setTop (mkF m 100 #[.val (.int p1), .val (.int p2), .val (.int (3 : Int32)), .val (.int (((p2.toUInt32 >>> ((2 : Int32) &&& 31).toUInt32).toInt32) &&& (3 : Int32))), .val (.int c0), .val (.int c1), .val (.int c2), .val (.int c3), .val (.int qq), .unset, .unset, .unset, .unset] [(.ref x_41)])) tgt
        refine XS.astore X41.here hx rfl (hb hby at_100) rfl rfl (l' := #[.val (.int p1), .val (.int p2), .val (.int (3 : Int32)), .val (.int (((p2.toUInt32 >>> ((2 : Int32) &&& 31).toUInt32).toInt32) &&& (3 : Int32))), .val (.int c0), .val (.int c1), .val (.int c2), .val (.int c3), .val (.int qq), .val (.ref x_41), .unset, .unset, .unset]) rfl ?_
        show Steps p.tables e below (T41.setTop (mkF m 102 #[.val (.int p1), .val (.int p2), .val (.int (3 : Int32)), .val (.int (((p2.toUInt32 >>> ((2 : Int32) &&& 31).toUInt32).toInt32) &&& (3 : Int32))), .val (.int c0), .val (.int c1), .val (.int c2), .val (.int c3), .val (.int qq), .val (.ref x_41), .unset, .unset, .unset] [])) tgt
        refine XS.iloadN X41.here hx rfl (hb hby at_102) rfl ?_
        show Steps p.tables e below (T41.setTop (mkF m 103 #[.val (.int p1), .val (.int p2), .val (.int (3 : Int32)), .val (.int (((p2.toUInt32 >>> ((2 : Int32) &&& 31).toUInt32).toInt32) &&& (3 : Int32))), .val (.int c0), .val (.int c1), .val (.int c2), .val (.int c3), .val (.int qq), .val (.ref x_41), .unset, .unset, .unset] [(.int p2)])) tgt
        refine XS.bipush X41.here hx rfl (hb hby at_103) ?_
        show Steps p.tables e below (T41.setTop (mkF m 105 #[.val (.int p1), .val (.int p2), .val (.int (3 : Int32)), .val (.int (((p2.toUInt32 >>> ((2 : Int32) &&& 31).toUInt32).toInt32) &&& (3 : Int32))), .val (.int c0), .val (.int c1), .val (.int c2), .val (.int c3), .val (.int qq), .val (.ref x_41), .unset, .unset, .unset] [(.int (8 : Int32)), (.int p2)])) tgt
        refine XS.iushr X41.here hx rfl (hb hby at_105) rfl ?_
        show Steps p.tables e below (T41.setTop (mkF m 106 #[.val (.int p1), .val (.int p2), .val (.int (3 : Int32)), .val (.int (((p2.toUInt32 >>> ((2 : Int32) &&& 31).toUInt32).toInt32) &&& (3 : Int32))), .val (.int c0), .val (.int c1), .val (.int c2), .val (.int c3), .val (.int qq), .val (.ref x_41), .unset, .unset, .unset] [(.int ((p2.toUInt32 >>> ((8 : Int32) &&& 31).toUInt32).toInt32))])) tgt
        refine XS.sipush X41.here hx rfl (hb hby at_106) ?_
        show Steps p.tables e below (T41.setTop (mkF m 109 #[.val (.int p1), .val (.int p2), .val (.int (3 : Int32)), .val (.int (((p2.toUInt32 >>> ((2 : Int32) &&& 31).toUInt32).toInt32) &&& (3 : Int32))), .val (.int c0), .val (.int c1), .val (.int c2), .val (.int c3), .val (.int qq), .val (.ref x_41), .unset, .unset, .unset] [(.int (255 : Int32)), (.int ((p2.toUInt32 >>> ((8 : Int32) &&& 31).toUInt32).toInt32))])) tgt
        refine XS.iand X41.here hx rfl (hb hby at_109) rfl ?_
        show Steps p.tables e below (T41.setTop (mkF m 110 #[.val (.int p1), .val (.int p2), .val (.int (3 : Int32)), .val (.int (((p2.toUInt32 >>> ((2 : Int32) &&& 31).toUInt32).toInt32) &&& (3 : Int32))), .val (.int c0), .val (.int c1), .val (.int c2), .val (.int c3), .val (.int qq), .val (.ref x_41), .unset, .unset, .unset] [(.int (((p2.toUInt32 >>> ((8 : Int32) &&& 31).toUInt32).toInt32) &&& (255 : Int32)))])) tgt
        refine XS.i2c X41.here hx rfl (hb hby at_110) rfl ?_
        exact kgo
      obtain ⟨_, _, ⟨T42, L42, k42, n42⟩, -, X42, ⟨Lc42, hQ42, l42, y42, z42⟩, st42⟩ := Jvm.LawKit.callS X41 hx (y := (⟨"java/lang/String", "valueOf", "(C)Ljava/lang/String;"⟩ : MethodName)) hown (mvT hZ (hw _ (List.mem_of_getElem? (i := 34) rfl))) (mvT hZ (hw _ (List.mem_of_getElem? (i := 35) rfl))) (mvT hZ (hw _ (List.mem_of_getElem? (i := 6) rfl))) (mvT hZ (hw _ (List.mem_of_getElem? (i := 36) rfl))) (by decide) (backOf (W := 0) (rm_valueOf l Z a0 hw [] wG1 wO2 wP5 wG3 wO4 wrG3 hstr hEL T41.heap n0 Ol41 (nar .char (((p2.toUInt32 >>> ((8 : Int32) &&& 31).toUInt32).toInt32) &&& (255 : Int32))) (own_lat255 ((p2.toUInt32 >>> ((8 : Int32) &&& 31).toUInt32).toInt32)).2) hZ (hw _ (List.mem_of_getElem? (i := 36) rfl)) (hw _ (List.mem_of_getElem? (i := 6) rfl)) (by decide) (by decide)) (g := (mkF m 111 #[.val (.int p1), .val (.int p2), .val (.int (3 : Int32)), .val (.int (((p2.toUInt32 >>> ((2 : Int32) &&& 31).toUInt32).toInt32) &&& (3 : Int32))), .val (.int c0), .val (.int c1), .val (.int c2), .val (.int c3), .val (.int qq), .val (.ref x_41), .unset, .unset, .unset] [(.int (nar .char (((p2.toUInt32 >>> ((8 : Int32) &&& 31).toUInt32).toInt32) &&& (255 : Int32))))])) rfl (by rw [hml]; rfl) (argsL := [(.int (nar .char (((p2.toUInt32 >>> ((8 : Int32) &&& 31).toUInt32).toInt32) &&& (255 : Int32))))]) (rest := []) (lenOf pd_44149578 rfl) rfl (by show 2 * 0 + _ ≤ _; exact Nat.le_of_eq rfl) (hb hby at_111) (fun _ _ => ⟨rfl, rfl, (by decide : 3 + 2 ≤ _), (by decide : 10 + 5 ≤ _)⟩)
      dsimp only [Pt.U, Pt.locs, Pt.cells, Pt.slots] at X42 l42 y42 z42 st42 hQ42
      subst l42 y42 z42
      obtain ⟨x_42, t_42, k_42, rfl, Nq42, Kq42, zq42_0, zq42_1, fq42_0, fq42_1, fq42_2, fq42_3⟩ := hQ42
      refine OwnGoes.step (T' := T42) (g' := (mkF m 114 #[.val (.int p1), .val (.int p2), .val (.int (3 : Int32)), .val (.int (((p2.toUInt32 >>> ((2 : Int32) &&& 31).toUInt32).toInt32) &&& (3 : Int32))), .val (.int c0), .val (.int c1), .val (.int c2), .val (.int c3), .val (.int qq), .val (.ref x_41), .unset, .unset, .unset] [(.ref x_42)])) st42 ?_
      have N42 := Fr.app N41 Nq42
      have ne_x_41_x_42 : x_41 ≠ x_42 := Nat.ne_of_lt (Nat.lt_of_lt_of_le fq41_0.lt zq42_0)
      have ne_t_41_x_42 : t_41 ≠ x_42 := Nat.ne_of_lt (Nat.lt_of_lt_of_le fq41_3.lt zq42_0)
      have g_x_42 : n0 ≤ x_42 := Nat.le_trans (Nat.le_trans Z0 K41.1) zq42_0
      have s_x_42 : h0.size ≤ x_42 := Nat.le_trans K41.1 zq42_0
      have ne_x_41_t_42 : x_41 ≠ t_42 := Nat.ne_of_lt (Nat.lt_of_lt_of_le fq41_0.lt zq42_1)
      have ne_t_41_t_42 : t_41 ≠ t_42 := Nat.ne_of_lt (Nat.lt_of_lt_of_le fq41_3.lt zq42_1)
      have g_t_42 : n0 ≤ t_42 := Nat.le_trans (Nat.le_trans Z0 K41.1) zq42_1
      have s_t_42 : h0.size ≤ t_42 := Nat.le_trans K41.1 zq42_1
      have F42_205 := fq41_0.keep Kq42
      have F42_206 := fq41_1.keep Kq42 nin0
      have F42_207 := fq41_2.keep Kq42 nin0
      have F42_208 := fq41_3.keep Kq42 nin0
      have Ol42 := Ol41.keep Kq42 all0
      have K42 : Keep h0 T42.heap ([] : List Addr) := K41.trans Kq42 all0
      have R42 := R41.trans (CHr.keep Kq42 sf0 R41.1)
      have hk42 := Nat.le_trans hk41 Kq42.1
      refine OwnGoes.step (T' := T42) (g' := (mkF m 116 #[.val (.int p1), .val (.int p2), .val (.int (3 : Int32)), .val (.int (((p2.toUInt32 >>> ((2 : Int32) &&& 31).toUInt32).toInt32) &&& (3 : Int32))), .val (.int c0), .val (.int c1), .val (.int c2), .val (.int c3), .val (.int qq), .val (.ref x_41), .val (.ref x_42), .unset, .unset] [])) (fun tgt kgo => ?_) ?_
      · show Steps p.tables e below (T42.setTop (mkF m 114 #[.val (.int p1), .val (.int p2), .val (.int (3 : Int32)), .val (.int (((p2.toUInt32 >>> ((2 : Int32) &&& 31).toUInt32).toInt32) &&& (3 : Int32))), .val (.int c0), .val (.int c1), .val (.int c2), .val (.int c3), .val (.int qq), .val (.ref x_41), .unset, .unset, .unset] [(.ref x_42)])) tgt
        refine XS.astore X42.here hx rfl (hb hby at_114) rfl rfl (l' := #[.val (.int p1), .val (.int p2), .val (.int (3 : Int32)), .val (.int (((p2.toUInt32 >>> ((2 : Int32) &&& 31).toUInt32).toInt32) &&& (3 : Int32))), .val (.int c0), .val (.int c1), .val (.int c2), .val (.int c3), .val (.int qq), .val (.ref x_41), .val (.ref x_42), .unset, .unset]) rfl ?_
        exact kgo
      obtain ⟨T43, h43, X43, e43, E43, A43, D43, U43, st43⟩ := newO X42 hx hZ hown (hw _ (List.mem_of_getElem? (i := 48) rfl)) (hw _ (List.mem_of_getElem? (i := 49) rfl)) (hw _ (List.mem_of_getElem? (i := 50) rfl)) rfl (g := (mkF m 116 #[.val (.int p1), .val (.int p2), .val (.int (3 : Int32)), .val (.int (((p2.toUInt32 >>> ((2 : Int32) &&& 31).toUInt32).toInt32) &&& (3 : Int32))), .val (.int c0), .val (.int c1), .val (.int c2), .val (.int c3), .val (.int qq), .val (.ref x_41), .val (.ref x_42), .unset, .unset] [])) rfl (hb hby at_116) (by decide) (by decide)
      obtain ⟨b43, g43⟩ : ∃ z, z = T42.heap.size := ⟨_, rfl⟩
      rw [← g43] at A43 D43 U43 st43
      refine OwnGoes.step (T' := T43) (g' := (mkF m 119 #[.val (.int p1), .val (.int p2), .val (.int (3 : Int32)), .val (.int (((p2.toUInt32 >>> ((2 : Int32) &&& 31).toUInt32).toInt32) &&& (3 : Int32))), .val (.int c0), .val (.int c1), .val (.int c2), .val (.int c3), .val (.int qq), .val (.ref x_41), .val (.ref x_42), .unset, .unset] [(.ref b43)])) st43 ?_
      have ne_x_41_b43 : x_41 ≠ b43 := Nat.ne_of_lt (Nat.lt_of_lt_of_le F42_205.lt (Nat.le_of_eq g43.symm))
      have ne_t_41_b43 : t_41 ≠ b43 := Nat.ne_of_lt (Nat.lt_of_lt_of_le F42_208.lt (Nat.le_of_eq g43.symm))
      have g_b43 : n0 ≤ b43 := Nat.le_trans (Nat.le_trans Z0 K42.1) (Nat.le_of_eq g43.symm)
      have s_b43 : h0.size ≤ b43 := Nat.le_trans K42.1 (Nat.le_of_eq g43.symm)
      have Sf43 : Safe Z consts_1 s.vm h43 b43 := Safe.ext E43 R42.1 (Safe.new (Nat.le_of_eq g43.symm))
      have F43_209 := F42_205.ext E43
      have F43_210 := F42_206.ext E43
      have F43_211 := F42_207.ext E43
      have F43_212 := F42_208.ext E43
      have Ol43 := Ol42.ext E43
      have K43 : Keep h0 h43 ([] : List Addr) := K42.ext E43
      have R43 := R42.trans (CHr.ext E43 R42.1)
      have hk43 := Nat.le_trans hk42 E43.1
      have F43_213 : Fld Z h43 b43 "com/example/fieldwright/fieldwright/FieldStructure" "tag" "Ljava/lang/String;" .null := D43 (Or.inr (hw _ (List.mem_of_getElem? (i := 67) rfl))) (ty := (.object "java/lang/String")) (by decide)
      have F43_214 : Fld Z h43 b43 "com/example/fieldwright/fieldwright/FieldStructure" "indicator1" "Ljava/lang/String;" .null := D43 (Or.inr (hw _ (List.mem_of_getElem? (i := 69) rfl))) (ty := (.object "java/lang/String")) (by decide)
      have F43_215 : Fld Z h43 b43 "com/example/fieldwright/fieldwright/FieldStructure" "indicator2" "Ljava/lang/String;" .null := D43 (Or.inr (hw _ (List.mem_of_getElem? (i := 71) rfl))) (ty := (.object "java/lang/String")) (by decide)
      have F43_216 : Fld Z h43 b43 "com/example/fieldwright/fieldwright/FieldStructure" "indicatorRule" "Ljava/lang/String;" .null := D43 (Or.inr (hw _ (List.mem_of_getElem? (i := 73) rfl))) (ty := (.object "java/lang/String")) (by decide)
      have F43_217 : Fld Z h43 b43 "com/example/fieldwright/fieldwright/FieldStructure" "subfields" "Ljava/lang/String;" .null := D43 (Or.inr (hw _ (List.mem_of_getElem? (i := 75) rfl))) (ty := (.object "java/lang/String")) (by decide)
      have F43_218 : Fld Z h43 b43 "com/example/fieldwright/fieldwright/FieldStructure" "repeatable" "Ljava/lang/String;" .null := D43 (Or.inr (hw _ (List.mem_of_getElem? (i := 77) rfl))) (ty := (.object "java/lang/String")) (by decide)
      refine OwnGoes.step (T' := T43) (g' := (mkF m 120 #[.val (.int p1), .val (.int p2), .val (.int (3 : Int32)), .val (.int (((p2.toUInt32 >>> ((2 : Int32) &&& 31).toUInt32).toInt32) &&& (3 : Int32))), .val (.int c0), .val (.int c1), .val (.int c2), .val (.int c3), .val (.int qq), .val (.ref x_41), .val (.ref x_42), .unset, .unset] [(.ref b43), (.ref b43)])) (fun tgt kgo => ?_) ?_
      · show Steps p.tables e below (T43.setTop (mkF m 119 #[.val (.int p1), .val (.int p2), .val (.int (3 : Int32)), .val (.int (((p2.toUInt32 >>> ((2 : Int32) &&& 31).toUInt32).toInt32) &&& (3 : Int32))), .val (.int c0), .val (.int c1), .val (.int c2), .val (.int c3), .val (.int qq), .val (.ref x_41), .val (.ref x_42), .unset, .unset] [(.ref b43)])) tgt
        refine XS.dup X43.here hx rfl (hb hby at_119) rfl rfl ?_
        exact kgo
      obtain ⟨b44, T44, h44, kk44, X44, e44, E44, hS44, hk44, hZ44, ho44, Rc44, Lt44, st44⟩ := ldcOH X43 hx hZ hown (hw _ (List.mem_of_getElem? (i := 51) rfl)) hstr e43 hS0 hk43 hEL R43.1 (g := (mkF m 120 #[.val (.int p1), .val (.int p2), .val (.int (3 : Int32)), .val (.int (((p2.toUInt32 >>> ((2 : Int32) &&& 31).toUInt32).toInt32) &&& (3 : Int32))), .val (.int c0), .val (.int c1), .val (.int c2), .val (.int c3), .val (.int qq), .val (.ref x_41), .val (.ref x_42), .unset, .unset] [(.ref b43), (.ref b43)])) rfl (hb hby at_120) (n := 12) (by decide) (by decide) (by decide) (by decide)
      refine OwnGoes.step (T' := T44) (g' := (mkF m 122 #[.val (.int p1), .val (.int p2), .val (.int (3 : Int32)), .val (.int (((p2.toUInt32 >>> ((2 : Int32) &&& 31).toUInt32).toInt32) &&& (3 : Int32))), .val (.int c0), .val (.int c1), .val (.int c2), .val (.int c3), .val (.int qq), .val (.ref x_41), .val (.ref x_42), .unset, .unset] [(.ref b44), (.ref b43), (.ref b43)])) st44 ?_
      have F44_219 := F43_209.ext E44
      have F44_220 := F43_210.ext E44
      have F44_221 := F43_211.ext E44
      have F44_222 := F43_212.ext E44
      have F44_223 := Rc44.safe A43.lt Sf43
      have F44_224 := A43.ext E44
      have F44_225 := F43_213.ext E44
      have F44_226 := F43_214.ext E44
      have F44_227 := F43_215.ext E44
      have F44_228 := F43_216.ext E44
      have F44_229 := F43_217.ext E44
      have F44_230 := F43_218.ext E44
      have Ol44 := Ol43.ext E44
      have K44 : Keep h0 h44 ([] : List Addr) := K43.ext E44
      have R44 := R43.trans Rc44
      obtain ⟨b45, T45, h45, kk45, X45, e45, E45, hS45, hk45, hZ45, ho45, Rc45, Lt45, st45⟩ := ldcOH X44 hx hZ44 ho44 (hw _ (List.mem_of_getElem? (i := 54) rfl)) hstr e44 hS44 hk44 hEL R44.1 (g := (mkF m 122 #[.val (.int p1), .val (.int p2), .val (.int (3 : Int32)), .val (.int (((p2.toUInt32 >>> ((2 : Int32) &&& 31).toUInt32).toInt32) &&& (3 : Int32))), .val (.int c0), .val (.int c1), .val (.int c2), .val (.int c3), .val (.int qq), .val (.ref x_41), .val (.ref x_42), .unset, .unset] [(.ref b44), (.ref b43), (.ref b43)])) rfl (hb hby at_122) (n := 4) (by decide) (by decide) (by decide) (by decide)
      refine OwnGoes.step (T' := T45) (g' := (mkF m 124 #[.val (.int p1), .val (.int p2), .val (.int (3 : Int32)), .val (.int (((p2.toUInt32 >>> ((2 : Int32) &&& 31).toUInt32).toInt32) &&& (3 : Int32))), .val (.int c0), .val (.int c1), .val (.int c2), .val (.int c3), .val (.int qq), .val (.ref x_41), .val (.ref x_42), .unset, .unset] [(.ref b45), (.ref b44), (.ref b43), (.ref b43)])) st45 ?_
      have F45_231 := F44_219.ext E45
      have F45_232 := F44_220.ext E45
      have F45_233 := F44_221.ext E45
      have F45_234 := F44_222.ext E45
      have F45_235 := Rc45.safe F44_224.lt F44_223
      have F45_236 := F44_224.ext E45
      have F45_237 := F44_225.ext E45
      have F45_238 := F44_226.ext E45
      have F45_239 := F44_227.ext E45
      have F45_240 := F44_228.ext E45
      have F45_241 := F44_229.ext E45
      have F45_242 := F44_230.ext E45
      have Ol45 := Ol44.ext E45
      have K45 : Keep h0 h45 ([] : List Addr) := K44.ext E45
      have R45 := R44.trans Rc45
      obtain ⟨b46, T46, h46, kk46, X46, e46, E46, hS46, hk46, hZ46, ho46, Rc46, Lt46, st46⟩ := ldcOH X45 hx hZ45 ho45 (hw _ (List.mem_of_getElem? (i := 55) rfl)) hstr e45 hS45 hk45 hEL R45.1 (g := (mkF m 124 #[.val (.int p1), .val (.int p2), .val (.int (3 : Int32)), .val (.int (((p2.toUInt32 >>> ((2 : Int32) &&& 31).toUInt32).toInt32) &&& (3 : Int32))), .val (.int c0), .val (.int c1), .val (.int c2), .val (.int c3), .val (.int qq), .val (.ref x_41), .val (.ref x_42), .unset, .unset] [(.ref b45), (.ref b44), (.ref b43), (.ref b43)])) rfl (hb hby at_124) (n := 8) (by decide) (by decide) (by decide) (by decide)
      refine OwnGoes.step (T' := T46) (g' := (mkF m 126 #[.val (.int p1), .val (.int p2), .val (.int (3 : Int32)), .val (.int (((p2.toUInt32 >>> ((2 : Int32) &&& 31).toUInt32).toInt32) &&& (3 : Int32))), .val (.int c0), .val (.int c1), .val (.int c2), .val (.int c3), .val (.int qq), .val (.ref x_41), .val (.ref x_42), .unset, .unset] [(.ref b46), (.ref b45), (.ref b44), (.ref b43), (.ref b43)])) st46 ?_
      have F46_243 := F45_231.ext E46
      have F46_244 := F45_232.ext E46
      have F46_245 := F45_233.ext E46
      have F46_246 := F45_234.ext E46
      have F46_247 := Rc46.safe F45_236.lt F45_235
      have F46_248 := F45_236.ext E46
      have F46_249 := F45_237.ext E46
      have F46_250 := F45_238.ext E46
      have F46_251 := F45_239.ext E46
      have F46_252 := F45_240.ext E46
      have F46_253 := F45_241.ext E46
      have F46_254 := F45_242.ext E46
      have Ol46 := Ol45.ext E46
      have K46 : Keep h0 h46 ([] : List Addr) := K45.ext E46
      have R46 := R45.trans Rc46
      obtain ⟨b47, T47, h47, kk47, X47, e47, E47, hS47, hk47, hZ47, ho47, Rc47, Lt47, st47⟩ := ldcOH X46 hx hZ46 ho46 (hw _ (List.mem_of_getElem? (i := 56) rfl)) hstr e46 hS46 hk46 hEL R46.1 (g := (mkF m 126 #[.val (.int p1), .val (.int p2), .val (.int (3 : Int32)), .val (.int (((p2.toUInt32 >>> ((2 : Int32) &&& 31).toUInt32).toInt32) &&& (3 : Int32))), .val (.int c0), .val (.int c1), .val (.int c2), .val (.int c3), .val (.int qq), .val (.ref x_41), .val (.ref x_42), .unset, .unset] [(.ref b46), (.ref b45), (.ref b44), (.ref b43), (.ref b43)])) rfl (hb hby at_126) (n := 16) (by decide) (by decide) (by decide) (by decide)
      refine OwnGoes.step (T' := T47) (g' := (mkF m 128 #[.val (.int p1), .val (.int p2), .val (.int (3 : Int32)), .val (.int (((p2.toUInt32 >>> ((2 : Int32) &&& 31).toUInt32).toInt32) &&& (3 : Int32))), .val (.int c0), .val (.int c1), .val (.int c2), .val (.int c3), .val (.int qq), .val (.ref x_41), .val (.ref x_42), .unset, .unset] [(.ref b47), (.ref b46), (.ref b45), (.ref b44), (.ref b43), (.ref b43)])) st47 ?_
      have F47_255 := F46_243.ext E47
      have F47_256 := F46_244.ext E47
      have F47_257 := F46_245.ext E47
      have F47_258 := F46_246.ext E47
      have F47_259 := Rc47.safe F46_248.lt F46_247
      have F47_260 := F46_248.ext E47
      have F47_261 := F46_249.ext E47
      have F47_262 := F46_250.ext E47
      have F47_263 := F46_251.ext E47
      have F47_264 := F46_252.ext E47
      have F47_265 := F46_253.ext E47
      have F47_266 := F46_254.ext E47
      have Ol47 := Ol46.ext E47
      have K47 : Keep h0 h47 ([] : List Addr) := K46.ext E47
      have R47 := R46.trans Rc47
      refine OwnGoes.step (T' := T47) (g' := (mkF m 132 #[.val (.int p1), .val (.int p2), .val (.int (3 : Int32)), .val (.int (((p2.toUInt32 >>> ((2 : Int32) &&& 31).toUInt32).toInt32) &&& (3 : Int32))), .val (.int c0), .val (.int c1), .val (.int c2), .val (.int c3), .val (.int qq), .val (.ref x_41), .val (.ref x_42), .unset, .unset] [(.ref x_42), (.ref x_41), (.ref b47), (.ref b46), (.ref b45), (.ref b44), (.ref b43), (.ref b43)])) (fun tgt kgo => ?_) ?_
      · show Steps p.tables e below (T47.setTop (mkF m 128 #[.val (.int p1), .val (.int p2), .val (.int (3 : Int32)), .val (.int (((p2.toUInt32 >>> ((2 : Int32) &&& 31).toUInt32).toInt32) &&& (3 : Int32))), .val (.int c0), .val (.int c1), .val (.int c2), .val (.int c3), .val (.int qq), .val (.ref x_41), .val (.ref x_42), .unset, .unset] [(.ref b47), (.ref b46), (.ref b45), (.ref b44), (.ref b43), (.ref b43)])) tgt
        refine XS.aload X47.here hx rfl (hb hby at_128) rfl rfl ?_
        show Steps p.tables e below (T47.setTop (mkF m 130 #[.val (.int p1), .val (.int p2), .val (.int (3 : Int32)), .val (.int (((p2.toUInt32 >>> ((2 : Int32) &&& 31).toUInt32).toInt32) &&& (3 : Int32))), .val (.int c0), .val (.int c1), .val (.int c2), .val (.int c3), .val (.int qq), .val (.ref x_41), .val (.ref x_42), .unset, .unset] [(.ref x_41), (.ref b47), (.ref b46), (.ref b45), (.ref b44), (.ref b43), (.ref b43)])) tgt
        refine XS.aload X47.here hx rfl (hb hby at_130) rfl rfl ?_
        exact kgo
      obtain ⟨_, _, ⟨T48, L48, k48, n48⟩, -, X48, ⟨Lc48, hQ48, l48, y48, z48⟩, st48⟩ := X47.specialBack hx (y := (⟨"com/example/fieldwright/fieldwright/FieldStructure", "<init>", "(Ljava/lang/String;Ljava/lang/String;Ljava/lang/String;Ljava/lang/String;Ljava/lang/String;Ljava/lang/String;)V"⟩ : MethodName)) rfl ho47 (mvT hZ47 (hw _ (List.mem_of_getElem? (i := 57) rfl))) (mvT hZ47 (hw _ (List.mem_of_getElem? (i := 58) rfl))) (mvT hZ47 (hw _ (List.mem_of_getElem? (i := 59) rfl))) (by decide) (backOf (W := 1) (rm_fini l Z a0 hw [] wG1 wO2 wP5 wG3 wO4 wrG3 hstr hEL h47 n0 Ol47 b43 b44 b45 b46 b47 x_41 x_42 F47_260 F47_261 F47_262 F47_263 F47_264 F47_265 F47_266 g_b43) hZ47 (hw _ (List.mem_of_getElem? (i := 59) rfl)) (hw _ (List.mem_of_getElem? (i := 50) rfl)) (by decide) (by decide)) (g := (mkF m 132 #[.val (.int p1), .val (.int p2), .val (.int (3 : Int32)), .val (.int (((p2.toUInt32 >>> ((2 : Int32) &&& 31).toUInt32).toInt32) &&& (3 : Int32))), .val (.int c0), .val (.int c1), .val (.int c2), .val (.int c3), .val (.int qq), .val (.ref x_41), .val (.ref x_42), .unset, .unset] [(.ref x_42), (.ref x_41), (.ref b47), (.ref b46), (.ref b45), (.ref b44), (.ref b43), (.ref b43)])) rfl (by rw [hml]; rfl) (Steps.refl _) (a := b43) (argsL := [(.ref b44), (.ref b45), (.ref b46), (.ref b47), (.ref x_41), (.ref x_42)]) (rest := [(.ref b43)]) (lenOf pd_60881529 rfl) rfl (by show 2 * 0 + _ ≤ _; exact Nat.le_of_eq rfl) (hb hby at_132) (fun _ _ => ⟨rfl, e47, (by decide : 14 + 0 ≤ _), (by decide : 77 + 0 ≤ _)⟩)
      dsimp only [Pt.U, Pt.locs, Pt.cells, Pt.slots] at X48 l48 y48 z48 st48 hQ48
      subst l48 y48 z48
      obtain ⟨rfl, Nq48, Kq48, fq48_0, fq48_1⟩ := hQ48
      refine OwnGoes.tr (T' := T48) (g' := (mkF m 135 #[.val (.int p1), .val (.int p2), .val (.int (3 : Int32)), .val (.int (((p2.toUInt32 >>> ((2 : Int32) &&& 31).toUInt32).toInt32) &&& (3 : Int32))), .val (.int c0), .val (.int c1), .val (.int c2), .val (.int c3), .val (.int qq), .val (.ref x_41), .val (.ref x_42), .unset, .unset] [(.ref b43)])) st48 ?_
      have N48 := Fr.app N42 Nq48
      have F48_267 := F47_255.keep Kq48
      have F48_268 := F47_256.keep Kq48 (ninS ne_x_41_b43 nin0)
      have F48_269 := F47_257.keep Kq48 (ninS ne_x_41_b43 nin0)
      have F48_270 := F47_258.keep Kq48 (ninS ne_t_41_b43 nin0)
      have F48_271 := Safe.keep Kq48 (sfS F47_259 sf0) R47.1 F47_259
      have F48_272 := F47_260.keep Kq48
      have Ol48 := Ol47.keep Kq48 (allS g_b43 all0)
      have K48 : Keep h0 T48.heap ([] : List Addr) := K47.trans Kq48 (allS (Or.inr s_b43) all0)
      have R48 := R47.trans (CHr.keep Kq48 (sfS F47_259 sf0) R47.1)
      have hk48 := Nat.le_trans hk47 Kq48.1
      refine OwnGoes.step (T' := T48) (g' := (mkF m 146 #[.val (.int p1), .val (.int p2), .val (.int (3 : Int32)), .val (.int (((p2.toUInt32 >>> ((2 : Int32) &&& 31).toUInt32).toInt32) &&& (3 : Int32))), .val (.int c0), .val (.int c1), .val (.int c2), .val (.int c3), .val (.int qq), .val (.ref x_41), .val (.ref x_42), .val (.ref b43), .unset] [(.int c0), (.int qq)])) (fun tgt kgo => ?_) ?_
      · show Steps p.tables e below (T48.setTop (mkF m 135 #[.val (.int p1), .val (.int p2), .val (.int (3 : Int32)), .val (.int (((p2.toUInt32 >>> ((2 : Int32) &&& 31).toUInt32).toInt32) &&& (3 : Int32))), .val (.int c0), .val (.int c1), .val (.int c2), .val (.int c3), .val (.int qq), .val (.ref x_41), .val (.ref x_42), .unset, .unset] [(.ref b43)])) tgt
        refine XS.astore X48.here hx rfl (hb hby at_135) rfl rfl (l' := #[.val (.int p1), .val (.int p2), .val (.int (3 : Int32)), .val (.int (((p2.toUInt32 >>> ((2 : Int32) &&& 31).toUInt32).toInt32) &&& (3 : Int32))), .val (.int c0), .val (.int c1), .val (.int c2), .val (.int c3), .val (.int qq), .val (.ref x_41), .val (.ref x_42), .val (.ref b43), .unset]) rfl ?_
        show Steps p.tables e below (T48.setTop (mkF m 137 #[.val (.int p1), .val (.int p2), .val (.int (3 : Int32)), .val (.int (((p2.toUInt32 >>> ((2 : Int32) &&& 31).toUInt32).toInt32) &&& (3 : Int32))), .val (.int c0), .val (.int c1), .val (.int c2), .val (.int c3), .val (.int qq), .val (.ref x_41), .val (.ref x_42), .val (.ref b43), .unset] [])) tgt
        refine XS.iloadN X48.here hx rfl (hb hby at_137) rfl ?_
        show Steps p.tables e below (T48.setTop (mkF m 138 #[.val (.int p1), .val (.int p2), .val (.int (3 : Int32)), .val (.int (((p2.toUInt32 >>> ((2 : Int32) &&& 31).toUInt32).toInt32) &&& (3 : Int32))), .val (.int c0), .val (.int c1), .val (.int c2), .val (.int c3), .val (.int qq), .val (.ref x_41), .val (.ref x_42), .val (.ref b43), .unset] [(.int (3 : Int32))])) tgt
        refine XS.iconst X48.here hx rfl (hb hby at_138) ?_
        show Steps p.tables e below (T48.setTop (mkF m 139 #[.val (.int p1), .val (.int p2), .val (.int (3 : Int32)), .val (.int (((p2.toUInt32 >>> ((2 : Int32) &&& 31).toUInt32).toInt32) &&& (3 : Int32))), .val (.int c0), .val (.int c1), .val (.int c2), .val (.int c3), .val (.int qq), .val (.ref x_41), .val (.ref x_42), .val (.ref b43), .unset] [(.int (1 : Int32)), (.int (3 : Int32))])) tgt
        refine XS.icmpNo X48.here hx rfl (hb hby at_139) rfl (flt (by decide : ¬ ((3 : Int32) < (1 : Int32)))).1 ?_
        show Steps p.tables e below (T48.setTop (mkF m 142 #[.val (.int p1), .val (.int p2), .val (.int (3 : Int32)), .val (.int (((p2.toUInt32 >>> ((2 : Int32) &&& 31).toUInt32).toInt32) &&& (3 : Int32))), .val (.int c0), .val (.int c1), .val (.int c2), .val (.int c3), .val (.int qq), .val (.ref x_41), .val (.ref x_42), .val (.ref b43), .unset] [])) tgt
        refine XS.iload X48.here hx rfl (hb hby at_142) rfl ?_
        show Steps p.tables e below (T48.setTop (mkF m 144 #[.val (.int p1), .val (.int p2), .val (.int (3 : Int32)), .val (.int (((p2.toUInt32 >>> ((2 : Int32) &&& 31).toUInt32).toInt32) &&& (3 : Int32))), .val (.int c0), .val (.int c1), .val (.int c2), .val (.int c3), .val (.int qq), .val (.ref x_41), .val (.ref x_42), .val (.ref b43), .unset] [(.int qq)])) tgt
        refine XS.iload X48.here hx rfl (hb hby at_144) rfl ?_
        exact kgo
      by_cases cc49 : qq = c0
      · skip
        refine OwnGoes.step (T' := T48) (g' := (mkF m 184 #[.val (.int p1), .val (.int p2), .val (.int (3 : Int32)), .val (.int (((p2.toUInt32 >>> ((2 : Int32) &&& 31).toUInt32).toInt32) &&& (3 : Int32))), .val (.int c0), .val (.int c1), .val (.int c2), .val (.int c3), .val (.int qq), .val (.ref x_41), .val (.ref x_42), .val (.ref b43), .val (.int (1 : Int32))] [(.int qq), (.ref b43)])) (fun tgt kgo => ?_) ?_
        · show Steps p.tables e below (T48.setTop (mkF m 146 #[.val (.int p1), .val (.int p2), .val (.int (3 : Int32)), .val (.int (((p2.toUInt32 >>> ((2 : Int32) &&& 31).toUInt32).toInt32) &&& (3 : Int32))), .val (.int c0), .val (.int c1), .val (.int c2), .val (.int c3), .val (.int qq), .val (.ref x_41), .val (.ref x_42), .val (.ref b43), .unset] [(.int c0), (.int qq)])) tgt
          refine XS.icmpYes X48.here hx rfl (pc0 := 146) (pc' := 173) rfl (hb hby at_146) rfl (teq cc49).1 (by decide) (by decide) ?_
          show Steps p.tables e below (T48.setTop (mkF m 173 #[.val (.int p1), .val (.int p2), .val (.int (3 : Int32)), .val (.int (((p2.toUInt32 >>> ((2 : Int32) &&& 31).toUInt32).toInt32) &&& (3 : Int32))), .val (.int c0), .val (.int c1), .val (.int c2), .val (.int c3), .val (.int qq), .val (.ref x_41), .val (.ref x_42), .val (.ref b43), .unset] [])) tgt
          refine XS.iconst X48.here hx rfl (hb hby at_173) ?_
          show Steps p.tables e below (T48.setTop (mkF m 174 #[.val (.int p1), .val (.int p2), .val (.int (3 : Int32)), .val (.int (((p2.toUInt32 >>> ((2 : Int32) &&& 31).toUInt32).toInt32) &&& (3 : Int32))), .val (.int c0), .val (.int c1), .val (.int c2), .val (.int c3), .val (.int qq), .val (.ref x_41), .val (.ref x_42), .val (.ref b43), .unset] [(.int (1 : Int32))])) tgt
          refine XS.goto X48.here hx rfl (pc0 := 174) (pc' := 178) rfl (hb hby at_174) (by decide) (by decide) ?_
          show Steps p.tables e below (T48.setTop (mkF m 178 #[.val (.int p1), .val (.int p2), .val (.int (3 : Int32)), .val (.int (((p2.toUInt32 >>> ((2 : Int32) &&& 31).toUInt32).toInt32) &&& (3 : Int32))), .val (.int c0), .val (.int c1), .val (.int c2), .val (.int c3), .val (.int qq), .val (.ref x_41), .val (.ref x_42), .val (.ref b43), .unset] [(.int (1 : Int32))])) tgt
          refine XS.istore X48.here hx rfl (hb hby at_178) rfl (l' := #[.val (.int p1), .val (.int p2), .val (.int (3 : Int32)), .val (.int (((p2.toUInt32 >>> ((2 : Int32) &&& 31).toUInt32).toInt32) &&& (3 : Int32))), .val (.int c0), .val (.int c1), .val (.int c2), .val (.int c3), .val (.int qq), .val (.ref x_41), .val (.ref x_42), .val (.ref b43), .val (.int (1 : Int32))]) rfl ?_
          show Steps p.tables e below (T48.setTop (mkF m 180 #[.val (.int p1), .val (.int p2), .val (.int (3 : Int32)), .val (.int (((p2.toUInt32 >>> ((2 : Int32) &&& 31).toUInt32).toInt32) &&& (3 : Int32))), .val (.int c0), .val (.int c1), .val (.int c2), .val (.int c3), .val (.int qq), .val (.ref x_41), .val (.ref x_42), .val (.ref b43), .val (.int (1 : Int32))] [])) tgt
          refine XS.aload X48.here hx rfl (hb hby at_180) rfl rfl ?_
          show Steps p.tables e below (T48.setTop (mkF m 182 #[.val (.int p1), .val (.int p2), .val (.int (3 : Int32)), .val (.int (((p2.toUInt32 >>> ((2 : Int32) &&& 31).toUInt32).toInt32) &&& (3 : Int32))), .val (.int c0), .val (.int c1), .val (.int c2), .val (.int c3), .val (.int qq), .val (.ref x_41), .val (.ref x_42), .val (.ref b43), .val (.int (1 : Int32))] [(.ref b43)])) tgt
          refine XS.iload X48.here hx rfl (hb hby at_182) rfl ?_
          exact kgo
        obtain ⟨cq50, kq50, q50a, q50b, q50c⟩ := isOf (s := (s.setVm T47.vm)) hZ47 rfl fq48_0
        obtain ⟨_, _, ⟨T50, L50, k50, n50⟩, -, X50, ⟨Lc50, hQ50, l50, y50, z50⟩, st50⟩ := X48.virtualBack hx (y := (⟨"com/example/fieldwright/fieldwright/FieldStructure", "allows", "(C)Z"⟩ : MethodName)) (z := (⟨"com/example/fieldwright/fieldwright/FieldStructure", "allows", "(C)Z"⟩ : MethodName)) ho47 (mvT hZ47 (hw _ (List.mem_of_getElem? (i := 78) rfl))) (mvT hZ47 (hw _ (List.mem_of_getElem? (i := 79) rfl))) (notFace_of_selects (args := #[]) (mvT hZ47 (hw _ (List.mem_of_getElem? (i := 81) rfl)))) (mvT hZ47 (hw _ (List.mem_of_getElem? (i := 81) rfl))) (mvT hZ47 (hw _ (List.mem_of_getElem? (i := 80) rfl))) (by decide) (backOf (W := 0) (rm_alw3 l Z a0 hw [] wG1 wO2 wP5 wG3 wO4 wrG3 hstr hEL T48.heap n0 Ol48 b43 x_41 t_41 k_41 qq c0 c1 c2 fq48_1 F48_267 F48_268 F48_269 F48_270 hz1 hl_c0 hl_c1 hl_c2) hZ47 (hw _ (List.mem_of_getElem? (i := 82) rfl)) (hw _ (List.mem_of_getElem? (i := 50) rfl)) (by decide) (by decide)) q50a q50c (g := (mkF m 184 #[.val (.int p1), .val (.int p2), .val (.int (3 : Int32)), .val (.int (((p2.toUInt32 >>> ((2 : Int32) &&& 31).toUInt32).toInt32) &&& (3 : Int32))), .val (.int c0), .val (.int c1), .val (.int c2), .val (.int c3), .val (.int qq), .val (.ref x_41), .val (.ref x_42), .val (.ref b43), .val (.int (1 : Int32))] [(.int qq), (.ref b43)])) rfl (by rw [hml]; rfl) (Steps.refl _) (argsL := [(.int qq)]) (rest := []) (lenOf pd_92619605 rfl) rfl (by show 2 * 0 + _ ≤ _; exact Nat.le_of_eq rfl) (hb hby at_184) (fun _ _ => ⟨rfl, rfl, (by decide : 14 + 0 ≤ _), (by decide : 77 + 0 ≤ _)⟩)
        dsimp only [Pt.U, Pt.locs, Pt.cells, Pt.slots] at X50 l50 y50 z50 st50 hQ50
        subst l50 y50 z50
        obtain ⟨r_50, rfl, Nq50, eq50, pq50_0⟩ := hQ50
        refine OwnGoes.tr (T' := T50) (g' := (mkF m 187 #[.val (.int p1), .val (.int p2), .val (.int (3 : Int32)), .val (.int (((p2.toUInt32 >>> ((2 : Int32) &&& 31).toUInt32).toInt32) &&& (3 : Int32))), .val (.int c0), .val (.int c1), .val (.int c2), .val (.int c3), .val (.int qq), .val (.ref x_41), .val (.ref x_42), .val (.ref b43), .val (.int (1 : Int32))] [(.int r_50)])) st50 ?_
        have N50 := Fr.app N48 Nq50
        refine OwnGoes.step (T' := T50) (g' := (mkF m 189 #[.val (.int p1), .val (.int p2), .val (.int (3 : Int32)), .val (.int (((p2.toUInt32 >>> ((2 : Int32) &&& 31).toUInt32).toInt32) &&& (3 : Int32))), .val (.int c0), .val (.int c1), .val (.int c2), .val (.int c3), .val (.int qq), .val (.ref x_41), .val (.ref x_42), .val (.ref b43), .val (.int (1 : Int32))] [(.int (1 : Int32)), (.int r_50)])) (fun tgt kgo => ?_) ?_
        · show Steps p.tables e below (T50.setTop (mkF m 187 #[.val (.int p1), .val (.int p2), .val (.int (3 : Int32)), .val (.int (((p2.toUInt32 >>> ((2 : Int32) &&& 31).toUInt32).toInt32) &&& (3 : Int32))), .val (.int c0), .val (.int c1), .val (.int c2), .val (.int c3), .val (.int qq), .val (.ref x_41), .val (.ref x_42), .val (.ref b43), .val (.int (1 : Int32))] [(.int r_50)])) tgt
          refine XS.iload X50.here hx rfl (hb hby at_187) rfl ?_
          exact kgo
        rcases pq50_0 with ⟨hw1, rfl⟩ | ⟨hw1, rfl⟩
        · skip
          refine OwnGoes.step (T' := T50) (g' := (mkF m 197 #[.val (.int p1), .val (.int p2), .val (.int (3 : Int32)), .val (.int (((p2.toUInt32 >>> ((2 : Int32) &&& 31).toUInt32).toInt32) &&& (3 : Int32))), .val (.int c0), .val (.int c1), .val (.int c2), .val (.int c3), .val (.int qq), .val (.ref x_41), .val (.ref x_42), .val (.ref b43), .val (.int (1 : Int32))] [(.int (1 : Int32))])) (fun tgt kgo => ?_) ?_
          · show Steps p.tables e below (T50.setTop (mkF m 189 #[.val (.int p1), .val (.int p2), .val (.int (3 : Int32)), .val (.int (((p2.toUInt32 >>> ((2 : Int32) &&& 31).toUInt32).toInt32) &&& (3 : Int32))), .val (.int c0), .val (.int c1), .val (.int c2), .val (.int c3), .val (.int qq), .val (.ref x_41), .val (.ref x_42), .val (.ref b43), .val (.int (1 : Int32))] [(.int (1 : Int32)), (.int 1)])) tgt
            refine XS.icmpNo X50.here hx rfl (hb hby at_189) rfl (teq rfl).2 ?_
            show Steps p.tables e below (T50.setTop (mkF m 192 #[.val (.int p1), .val (.int p2), .val (.int (3 : Int32)), .val (.int (((p2.toUInt32 >>> ((2 : Int32) &&& 31).toUInt32).toInt32) &&& (3 : Int32))), .val (.int c0), .val (.int c1), .val (.int c2), .val (.int c3), .val (.int qq), .val (.ref x_41), .val (.ref x_42), .val (.ref b43), .val (.int (1 : Int32))] [])) tgt
            refine XS.iconst X50.here hx rfl (hb hby at_192) ?_
            show Steps p.tables e below (T50.setTop (mkF m 193 #[.val (.int p1), .val (.int p2), .val (.int (3 : Int32)), .val (.int (((p2.toUInt32 >>> ((2 : Int32) &&& 31).toUInt32).toInt32) &&& (3 : Int32))), .val (.int c0), .val (.int c1), .val (.int c2), .val (.int c3), .val (.int qq), .val (.ref x_41), .val (.ref x_42), .val (.ref b43), .val (.int (1 : Int32))] [(.int (1 : Int32))])) tgt
            refine XS.goto X50.here hx rfl (pc0 := 193) (pc' := 197) rfl (hb hby at_193) (by decide) (by decide) ?_
            exact kgo
          refine own_leaveW (Z := Z) (EL := consts_1) X50 hS47 (eq50 ▸ hk48) hlk (v := some (.int (1 : Int32))) (fun h => by rw [Bd.returns] at h; cases h) (fun fs hr => retN X50 hx (t := .boolean) Bd.returns (by simp) (hb hby at_197) (by rw [(by decide : nar .boolean (1 : Int32) = (1 : Int32))]; exact hr)) (by decide) (by decide) ?_ ?_
          · rw [hh, eq50]
            exact R48.trans (CHv.at X50 hZ47 hEL R48.1)
          show Q_law Z p1 p2 h0 n0 _ T50.heap _
          rw [eq50]
          exact ⟨rfl, N50⟩
        · skip
          exact absurd (Or.inl cc49) hw1
      · skip
        refine OwnGoes.step (T' := T48) (g' := (mkF m 158 #[.val (.int p1), .val (.int p2), .val (.int (3 : Int32)), .val (.int (((p2.toUInt32 >>> ((2 : Int32) &&& 31).toUInt32).toInt32) &&& (3 : Int32))), .val (.int c0), .val (.int c1), .val (.int c2), .val (.int c3), .val (.int qq), .val (.ref x_41), .val (.ref x_42), .val (.ref b43), .unset] [(.int c1), (.int qq)])) (fun tgt kgo => ?_) ?_
        · show Steps p.tables e below (T48.setTop (mkF m 146 #[.val (.int p1), .val (.int p2), .val (.int (3 : Int32)), .val (.int (((p2.toUInt32 >>> ((2 : Int32) &&& 31).toUInt32).toInt32) &&& (3 : Int32))), .val (.int c0), .val (.int c1), .val (.int c2), .val (.int c3), .val (.int qq), .val (.ref x_41), .val (.ref x_42), .val (.ref b43), .unset] [(.int c0), (.int qq)])) tgt
          refine XS.icmpNo X48.here hx rfl (hb hby at_146) rfl (feq cc49).1 ?_
          show Steps p.tables e below (T48.setTop (mkF m 149 #[.val (.int p1), .val (.int p2), .val (.int (3 : Int32)), .val (.int (((p2.toUInt32 >>> ((2 : Int32) &&& 31).toUInt32).toInt32) &&& (3 : Int32))), .val (.int c0), .val (.int c1), .val (.int c2), .val (.int c3), .val (.int qq), .val (.ref x_41), .val (.ref x_42), .val (.ref b43), .unset] [])) tgt
          refine XS.iloadN X48.here hx rfl (hb hby at_149) rfl ?_
          show Steps p.tables e below (T48.setTop (mkF m 150 #[.val (.int p1), .val (.int p2), .val (.int (3 : Int32)), .val (.int (((p2.toUInt32 >>> ((2 : Int32) &&& 31).toUInt32).toInt32) &&& (3 : Int32))), .val (.int c0), .val (.int c1), .val (.int c2), .val (.int c3), .val (.int qq), .val (.ref x_41), .val (.ref x_42), .val (.ref b43), .unset] [(.int (3 : Int32))])) tgt
          refine XS.iconst X48.here hx rfl (hb hby at_150) ?_
          show Steps p.tables e below (T48.setTop (mkF m 151 #[.val (.int p1), .val (.int p2), .val (.int (3 : Int32)), .val (.int (((p2.toUInt32 >>> ((2 : Int32) &&& 31).toUInt32).toInt32) &&& (3 : Int32))), .val (.int c0), .val (.int c1), .val (.int c2), .val (.int c3), .val (.int qq), .val (.ref x_41), .val (.ref x_42), .val (.ref b43), .unset] [(.int (2 : Int32)), (.int (3 : Int32))])) tgt
          refine XS.icmpNo X48.here hx rfl (hb hby at_151) rfl (flt (by decide : ¬ ((3 : Int32) < (2 : Int32)))).1 ?_
          show Steps p.tables e below (T48.setTop (mkF m 154 #[.val (.int p1), .val (.int p2), .val (.int (3 : Int32)), .val (.int (((p2.toUInt32 >>> ((2 : Int32) &&& 31).toUInt32).toInt32) &&& (3 : Int32))), .val (.int c0), .val (.int c1), .val (.int c2), .val (.int c3), .val (.int qq), .val (.ref x_41), .val (.ref x_42), .val (.ref b43), .unset] [])) tgt
          refine XS.iload X48.here hx rfl (hb hby at_154) rfl ?_
          show Steps p.tables e below (T48.setTop (mkF m 156 #[.val (.int p1), .val (.int p2), .val (.int (3 : Int32)), .val (.int (((p2.toUInt32 >>> ((2 : Int32) &&& 31).toUInt32).toInt32) &&& (3 : Int32))), .val (.int c0), .val (.int c1), .val (.int c2), .val (.int c3), .val (.int qq), .val (.ref x_41), .val (.ref x_42), .val (.ref b43), .unset] [(.int qq)])) tgt
          refine XS.iload X48.here hx rfl (hb hby at_156) rfl ?_
          exact kgo
        by_cases cc52 : qq = c1
        · skip
          refine OwnGoes.step (T' := T48) (g' := (mkF m 184 #[.val (.int p1), .val (.int p2), .val (.int (3 : Int32)), .val (.int (((p2.toUInt32 >>> ((2 : Int32) &&& 31).toUInt32).toInt32) &&& (3 : Int32))), .val (.int c0), .val (.int c1), .val (.int c2), .val (.int c3), .val (.int qq), .val (.ref x_41), .val (.ref x_42), .val (.ref b43), .val (.int (1 : Int32))] [(.int qq), (.ref b43)])) (fun tgt kgo => ?_) ?_
          · show Steps p.tables e below (T48.setTop (mkF m 158 #[.val (.int p1), .val (.int p2), .val (.int (3 : Int32)), .val (.int (((p2.toUInt32 >>> ((2 : Int32) &&& 31).toUInt32).toInt32) &&& (3 : Int32))), .val (.int c0), .val (.int c1), .val (.int c2), .val (.int c3), .val (.int qq), .val (.ref x_41), .val (.ref x_42), .val (.ref b43), .unset] [(.int c1), (.int qq)])) tgt
            refine XS.icmpYes X48.here hx rfl (pc0 := 158) (pc' := 173) rfl (hb hby at_158) rfl (teq cc52).1 (by decide) (by decide) ?_
            show Steps p.tables e below (T48.setTop (mkF m 173 #[.val (.int p1), .val (.int p2), .val (.int (3 : Int32)), .val (.int (((p2.toUInt32 >>> ((2 : Int32) &&& 31).toUInt32).toInt32) &&& (3 : Int32))), .val (.int c0), .val (.int c1), .val (.int c2), .val (.int c3), .val (.int qq), .val (.ref x_41), .val (.ref x_42), .val (.ref b43), .unset] [])) tgt
            refine XS.iconst X48.here hx rfl (hb hby at_173) ?_
            show Steps p.tables e below (T48.setTop (mkF m 174 #[.val (.int p1), .val (.int p2), .val (.int (3 : Int32)), .val (.int (((p2.toUInt32 >>> ((2 : Int32) &&& 31).toUInt32).toInt32) &&& (3 : Int32))), .val (.int c0), .val (.int c1), .val (.int c2), .val (.int c3), .val (.int qq), .val (.ref x_41), .val (.ref x_42), .val (.ref b43), .unset] [(.int (1 : Int32))])) tgt
            refine XS.goto X48.here hx rfl (pc0 := 174) (pc' := 178) rfl (hb hby at_174) (by decide) (by decide) ?_
            show Steps p.tables e below (T48.setTop (mkF m 178 #[.val (.int p1), .val (.int p2), .val (.int (3 : Int32)), .val (.int (((p2.toUInt32 >>> ((2 : Int32) &&& 31).toUInt32).toInt32) &&& (3 : Int32))), .val (.int c0), .val (.int c1), .val (.int c2), .val (.int c3), .val (.int qq), .val (.ref x_41), .val (.ref x_42), .val (.ref b43), .unset] [(.int (1 : Int32))])) tgt
            refine XS.istore X48.here hx rfl (hb hby at_178) rfl (l' := #[.val (.int p1), .val (.int p2), .val (.int (3 : Int32)), .val (.int (((p2.toUInt32 >>> ((2 : Int32) &&& 31).toUInt32).toInt32) &&& (3 : Int32))), .val (.int c0), .val (.int c1), .val (.int c2), .val (.int c3), .val (.int qq), .val (.ref x_41), .val (.ref x_42), .val (.ref b43), .val (.int (1 : Int32))]) rfl ?_
            show Steps p.tables e below (T48.setTop (mkF m 180 #[.val (.int p1), .val (.int p2), .val (.int (3 : Int32)), .val (.int (((p2.toUInt32 >>> ((2 : Int32) &&& 31).toUInt32).toInt32) &&& (3 : Int32))), .val (.int c0), .val (.int c1), .val (.int c2), .val (.int c3), .val (.int qq), .val (.ref x_41), .val (.ref x_42), .val (.ref b43), .val (.int (1 : Int32))] [])) tgt
            refine XS.aload X48.here hx rfl (hb hby at_180) rfl rfl ?_
            show Steps p.tables e below (T48.setTop (mkF m 182 #[.val (.int p1), .val (.int p2), .val (.int (3 : Int32)), .val (.int (((p2.toUInt32 >>> ((2 : Int32) &&& 31).toUInt32).toInt32) &&& (3 : Int32))), .val (.int c0), .val (.int c1), .val (.int c2), .val (.int c3), .val (.int qq), .val (.ref x_41), .val (.ref x_42), .val (.ref b43), .val (.int (1 : Int32))] [(.ref b43)])) tgt
            refine XS.iload X48.here hx rfl (hb hby at_182) rfl ?_
            exact kgo
          obtain ⟨cq53, kq53, q53a, q53b, q53c⟩ := isOf (s := (s.setVm T47.vm)) hZ47 rfl fq48_0
          obtain ⟨_, _, ⟨T53, L53, k53, n53⟩, -, X53, ⟨Lc53, hQ53, l53, y53, z53⟩, st53⟩ := X48.virtualBack hx (y := (⟨"com/example/fieldwright/fieldwright/FieldStructure", "allows", "(C)Z"⟩ : MethodName)) (z := (⟨"com/example/fieldwright/fieldwright/FieldStructure", "allows", "(C)Z"⟩ : MethodName)) ho47 (mvT hZ47 (hw _ (List.mem_of_getElem? (i := 78) rfl))) (mvT hZ47 (hw _ (List.mem_of_getElem? (i := 79) rfl))) (notFace_of_selects (args := #[]) (mvT hZ47 (hw _ (List.mem_of_getElem? (i := 81) rfl)))) (mvT hZ47 (hw _ (List.mem_of_getElem? (i := 81) rfl))) (mvT hZ47 (hw _ (List.mem_of_getElem? (i := 80) rfl))) (by decide) (backOf (W := 0) (rm_alw3 l Z a0 hw [] wG1 wO2 wP5 wG3 wO4 wrG3 hstr hEL T48.heap n0 Ol48 b43 x_41 t_41 k_41 qq c0 c1 c2 fq48_1 F48_267 F48_268 F48_269 F48_270 hz1 hl_c0 hl_c1 hl_c2) hZ47 (hw _ (List.mem_of_getElem? (i := 82) rfl)) (hw _ (List.mem_of_getElem? (i := 50) rfl)) (by decide) (by decide)) q53a q53c (g := (mkF m 184 #[.val (.int p1), .val (.int p2), .val (.int (3 : Int32)), .val (.int (((p2.toUInt32 >>> ((2 : Int32) &&& 31).toUInt32).toInt32) &&& (3 : Int32))), .val (.int c0), .val (.int c1), .val (.int c2), .val (.int c3), .val (.int qq), .val (.ref x_41), .val (.ref x_42), .val (.ref b43), .val (.int (1 : Int32))] [(.int qq), (.ref b43)])) rfl (by rw [hml]; rfl) (Steps.refl _) (argsL := [(.int qq)]) (rest := []) (lenOf pd_92619605 rfl) rfl (by show 2 * 0 + _ ≤ _; exact Nat.le_of_eq rfl) (hb hby at_184) (fun _ _ => ⟨rfl, rfl, (by decide : 14 + 0 ≤ _), (by decide : 77 + 0 ≤ _)⟩)
          dsimp only [Pt.U, Pt.locs, Pt.cells, Pt.slots] at X53 l53 y53 z53 st53 hQ53
          subst l53 y53 z53
          obtain ⟨r_53, rfl, Nq53, eq53, pq53_0⟩ := hQ53
          refine OwnGoes.tr (T' := T53) (g' := (mkF m 187 #[.val (.int p1), .val (.int p2), .val (.int (3 : Int32)), .val (.int (((p2.toUInt32 >>> ((2 : Int32) &&& 31).toUInt32).toInt32) &&& (3 : Int32))), .val (.int c0), .val (.int c1), .val (.int c2), .val (.int c3), .val (.int qq), .val (.ref x_41), .val (.ref x_42), .val (.ref b43), .val (.int (1 : Int32))] [(.int r_53)])) st53 ?_
          have N53 := Fr.app N48 Nq53
          refine OwnGoes.step (T' := T53) (g' := (mkF m 189 #[.val (.int p1), .val (.int p2), .val (.int (3 : Int32)), .val (.int (((p2.toUInt32 >>> ((2 : Int32) &&& 31).toUInt32).toInt32) &&& (3 : Int32))), .val (.int c0), .val (.int c1), .val (.int c2), .val (.int c3), .val (.int qq), .val (.ref x_41), .val (.ref x_42), .val (.ref b43), .val (.int (1 : Int32))] [(.int (1 : Int32)), (.int r_53)])) (fun tgt kgo => ?_) ?_
          · show Steps p.tables e below (T53.setTop (mkF m 187 #[.val (.int p1), .val (.int p2), .val (.int (3 : Int32)), .val (.int (((p2.toUInt32 >>> ((2 : Int32) &&& 31).toUInt32).toInt32) &&& (3 : Int32))), .val (.int c0), .val (.int c1), .val (.int c2), .val (.int c3), .val (.int qq), .val (.ref x_41), .val (.ref x_42), .val (.ref b43), .val (.int (1 : Int32))] [(.int r_53)])) tgt
            refine XS.iload X53.here hx rfl (hb hby at_187) rfl ?_
            exact kgo
          rcases pq53_0 with ⟨hw1, rfl⟩ | ⟨hw1, rfl⟩
          · skip
            refine OwnGoes.step (T' := T53) (g' := (mkF m 197 #[.val (.int p1), .val (.int p2), .val (.int (3 : Int32)), .val (.int (((p2.toUInt32 >>> ((2 : Int32) &&& 31).toUInt32).toInt32) &&& (3 : Int32))), .val (.int c0), .val (.int c1), .val (.int c2), .val (.int c3), .val (.int qq), .val (.ref x_41), .val (.ref x_42), .val (.ref b43), .val (.int (1 : Int32))] [(.int (1 : Int32))])) (fun tgt kgo => ?_) ?_
            · show Steps p.tables e below (T53.setTop (mkF m 189 #[.val (.int p1), .val (.int p2), .val (.int (3 : Int32)), .val (.int (((p2.toUInt32 >>> ((2 : Int32) &&& 31).toUInt32).toInt32) &&& (3 : Int32))), .val (.int c0), .val (.int c1), .val (.int c2), .val (.int c3), .val (.int qq), .val (.ref x_41), .val (.ref x_42), .val (.ref b43), .val (.int (1 : Int32))] [(.int (1 : Int32)), (.int 1)])) tgt
              refine XS.icmpNo X53.here hx rfl (hb hby at_189) rfl (teq rfl).2 ?_
              show Steps p.tables e below (T53.setTop (mkF m 192 #[.val (.int p1), .val (.int p2), .val (.int (3 : Int32)), .val (.int (((p2.toUInt32 >>> ((2 : Int32) &&& 31).toUInt32).toInt32) &&& (3 : Int32))), .val (.int c0), .val (.int c1), .val (.int c2), .val (.int c3), .val (.int qq), .val (.ref x_41), .val (.ref x_42), .val (.ref b43), .val (.int (1 : Int32))] [])) tgt
              refine XS.iconst X53.here hx rfl (hb hby at_192) ?_
              show Steps p.tables e below (T53.setTop (mkF m 193 #[.val (.int p1), .val (.int p2), .val (.int (3 : Int32)), .val (.int (((p2.toUInt32 >>> ((2 : Int32) &&& 31).toUInt32).toInt32) &&& (3 : Int32))), .val (.int c0), .val (.int c1), .val (.int c2), .val (.int c3), .val (.int qq), .val (.ref x_41), .val (.ref x_42), .val (.ref b43), .val (.int (1 : Int32))] [(.int (1 : Int32))])) tgt
              refine XS.goto X53.here hx rfl (pc0 := 193) (pc' := 197) rfl (hb hby at_193) (by decide) (by decide) ?_
              exact kgo
            refine own_leaveW (Z := Z) (EL := consts_1) X53 hS47 (eq53 ▸ hk48) hlk (v := some (.int (1 : Int32))) (fun h => by rw [Bd.returns] at h; cases h) (fun fs hr => retN X53 hx (t := .boolean) Bd.returns (by simp) (hb hby at_197) (by rw [(by decide : nar .boolean (1 : Int32) = (1 : Int32))]; exact hr)) (by decide) (by decide) ?_ ?_
            · rw [hh, eq53]
              exact R48.trans (CHv.at X53 hZ47 hEL R48.1)
            show Q_law Z p1 p2 h0 n0 _ T53.heap _
            rw [eq53]
            exact ⟨rfl, N53⟩
          · skip
            exact absurd (Or.inr (Or.inl cc52)) hw1
        · skip
          refine OwnGoes.step (T' := T48) (g' := (mkF m 170 #[.val (.int p1), .val (.int p2), .val (.int (3 : Int32)), .val (.int (((p2.toUInt32 >>> ((2 : Int32) &&& 31).toUInt32).toInt32) &&& (3 : Int32))), .val (.int c0), .val (.int c1), .val (.int c2), .val (.int c3), .val (.int qq), .val (.ref x_41), .val (.ref x_42), .val (.ref b43), .unset] [(.int c2), (.int qq)])) (fun tgt kgo => ?_) ?_
          · show Steps p.tables e below (T48.setTop (mkF m 158 #[.val (.int p1), .val (.int p2), .val (.int (3 : Int32)), .val (.int (((p2.toUInt32 >>> ((2 : Int32) &&& 31).toUInt32).toInt32) &&& (3 : Int32))), .val (.int c0), .val (.int c1), .val (.int c2), .val (.int c3), .val (.int qq), .val (.ref x_41), .val (.ref x_42), .val (.ref b43), .unset] [(.int c1), (.int qq)])) tgt
            refine XS.icmpNo X48.here hx rfl (hb hby at_158) rfl (feq cc52).1 ?_
            show Steps p.tables e below (T48.setTop (mkF m 161 #[.val (.int p1), .val (.int p2), .val (.int (3 : Int32)), .val (.int (((p2.toUInt32 >>> ((2 : Int32) &&& 31).toUInt32).toInt32) &&& (3 : Int32))), .val (.int c0), .val (.int c1), .val (.int c2), .val (.int c3), .val (.int qq), .val (.ref x_41), .val (.ref x_42), .val (.ref b43), .unset] [])) tgt
            refine XS.iloadN X48.here hx rfl (hb hby at_161) rfl ?_
            show Steps p.tables e below (T48.setTop (mkF m 162 #[.val (.int p1), .val (.int p2), .val (.int (3 : Int32)), .val (.int (((p2.toUInt32 >>> ((2 : Int32) &&& 31).toUInt32).toInt32) &&& (3 : Int32))), .val (.int c0), .val (.int c1), .val (.int c2), .val (.int c3), .val (.int qq), .val (.ref x_41), .val (.ref x_42), .val (.ref b43), .unset] [(.int (3 : Int32))])) tgt
            refine XS.iconst X48.here hx rfl (hb hby at_162) ?_
            show Steps p.tables e below (T48.setTop (mkF m 163 #[.val (.int p1), .val (.int p2), .val (.int (3 : Int32)), .val (.int (((p2.toUInt32 >>> ((2 : Int32) &&& 31).toUInt32).toInt32) &&& (3 : Int32))), .val (.int c0), .val (.int c1), .val (.int c2), .val (.int c3), .val (.int qq), .val (.ref x_41), .val (.ref x_42), .val (.ref b43), .unset] [(.int (3 : Int32)), (.int (3 : Int32))])) tgt
            refine XS.icmpNo X48.here hx rfl (hb hby at_163) rfl (flt (by decide : ¬ ((3 : Int32) < (3 : Int32)))).1 ?_
            show Steps p.tables e below (T48.setTop (mkF m 166 #[.val (.int p1), .val (.int p2), .val (.int (3 : Int32)), .val (.int (((p2.toUInt32 >>> ((2 : Int32) &&& 31).toUInt32).toInt32) &&& (3 : Int32))), .val (.int c0), .val (.int c1), .val (.int c2), .val (.int c3), .val (.int qq), .val (.ref x_41), .val (.ref x_42), .val (.ref b43), .unset] [])) tgt
            refine XS.iload X48.here hx rfl (hb hby at_166) rfl ?_
            show Steps p.tables e below (T48.setTop (mkF m 168 #[.val (.int p1), .val (.int p2), .val (.int (3 : Int32)), .val (.int (((p2.toUInt32 >>> ((2 : Int32) &&& 31).toUInt32).toInt32) &&& (3 : Int32))), .val (.int c0), .val (.int c1), .val (.int c2), .val (.int c3), .val (.int qq), .val (.ref x_41), .val (.ref x_42), .val (.ref b43), .unset] [(.int qq)])) tgt
            refine XS.iload X48.here hx rfl (hb hby at_168) rfl ?_
            exact kgo
          by_cases cc55 : qq = c2
          · skip
            refine OwnGoes.step (T' := T48) (g' := (mkF m 184 #[.val (.int p1), .val (.int p2), .val (.int (3 : Int32)), .val (.int (((p2.toUInt32 >>> ((2 : Int32) &&& 31).toUInt32).toInt32) &&& (3 : Int32))), .val (.int c0), .val (.int c1), .val (.int c2), .val (.int c3), .val (.int qq), .val (.ref x_41), .val (.ref x_42), .val (.ref b43), .val (.int (1 : Int32))] [(.int qq), (.ref b43)])) (fun tgt kgo => ?_) ?_
            · show Steps p.tables e below (T48.setTop (mkF m 170 #[.val (.int p1), .val (.int p2), .val (.int (3 : Int32)), .val (.int (((p2.toUInt32 >>> ((2 : Int32) &&& 31).toUInt32).toInt32) &&& (3 : Int32))), .val (.int c0), .val (.int c1), .val (.int c2), .val (.int c3), .val (.int qq), .val (.ref x_41), .val (.ref x_42), .val (.ref b43), .unset] [(.int c2), (.int qq)])) tgt
              refine XS.icmpNo X48.here hx rfl (hb hby at_170) rfl (teq cc55).2 ?_
              show Steps p.tables e below (T48.setTop (mkF m 173 #[.val (.int p1), .val (.int p2), .val (.int (3 : Int32)), .val (.int (((p2.toUInt32 >>> ((2 : Int32) &&& 31).toUInt32).toInt32) &&& (3 : Int32))), .val (.int c0), .val (.int c1), .val (.int c2), .val (.int c3), .val (.int qq), .val (.ref x_41), .val (.ref x_42), .val (.ref b43), .unset] [])) tgt
              refine XS.iconst X48.here hx rfl (hb hby at_173) ?_
              show Steps p.tables e below (T48.setTop (mkF m 174 #[.val (.int p1), .val (.int p2), .val (.int (3 : Int32)), .val (.int (((p2.toUInt32 >>> ((2 : Int32) &&& 31).toUInt32).toInt32) &&& (3 : Int32))), .val (.int c0), .val (.int c1), .val (.int c2), .val (.int c3), .val (.int qq), .val (.ref x_41), .val (.ref x_42), .val (.ref b43), .unset] [(.int (1 : Int32))])) tgt
              refine XS.goto X48.here hx rfl (pc0 := 174) (pc' := 178) rfl (hb hby at_174) (by decide) (by decide) ?_
              show Steps p.tables e below (T48.setTop (mkF m 178 #[.val (.int p1), .val (.int p2), .val (.int (3 : Int32)), .val (.int (((p2.toUInt32 >>> ((2 : Int32) &&& 31).toUInt32).toInt32) &&& (3 : Int32))), .val (.int c0), .val (.int c1), .val (.int c2), .val (.int c3), .val (.int qq), .val (.ref x_41), .val (.ref x_42), .val (.ref b43), .unset] [(.int (1 : Int32))])) tgt
              refine XS.istore X48.here hx rfl (hb hby at_178) rfl (l' := #[.val (.int p1), .val (.int p2), .val (.int (3 : Int32)), .val (.int (((p2.toUInt32 >>> ((2 : Int32) &&& 31).toUInt32).toInt32) &&& (3 : Int32))), .val (.int c0), .val (.int c1), .val (.int c2), .val (.int c3), .val (.int qq), .val (.ref x_41), .val (.ref x_42), .val (.ref b43), .val (.int (1 : Int32))]) rfl ?_
              show Steps p.tables e below (T48.setTop (mkF m 180 #[.val (.int p1), .val (.int p2), .val (.int (3 : Int32)), .val (.int (((p2.toUInt32 >>> ((2 : Int32) &&& 31).toUInt32).toInt32) &&& (3 : Int32))), .val (.int c0), .val (.int c1), .val (.int c2), .val (.int c3), .val (.int qq), .val (.ref x_41), .val (.ref x_42), .val (.ref b43), .val (.int (1 : Int32))] [])) tgt
              refine XS.aload X48.here hx rfl (hb hby at_180) rfl rfl ?_
              show Steps p.tables e below (T48.setTop (mkF m 182 #[.val (.int p1), .val (.int p2), .val (.int (3 : Int32)), .val (.int (((p2.toUInt32 >>> ((2 : Int32) &&& 31).toUInt32).toInt32) &&& (3 : Int32))), .val (.int c0), .val (.int c1), .val (.int c2), .val (.int c3), .val (.int qq), .val (.ref x_41), .val (.ref x_42), .val (.ref b43), .val (.int (1 : Int32))] [(.ref b43)])) tgt
              refine XS.iload X48.here hx rfl (hb hby at_182) rfl ?_
              exact kgo
            obtain ⟨cq56, kq56, q56a, q56b, q56c⟩ := isOf (s := (s.setVm T47.vm)) hZ47 rfl fq48_0
            obtain ⟨_, _, ⟨T56, L56, k56, n56⟩, -, X56, ⟨Lc56, hQ56, l56, y56, z56⟩, st56⟩ := X48.virtualBack hx (y := (⟨"com/example/fieldwright/fieldwright/FieldStructure", "allows", "(C)Z"⟩ : MethodName)) (z := (⟨"com/example/fieldwright/fieldwright/FieldStructure", "allows", "(C)Z"⟩ : MethodName)) ho47 (mvT hZ47 (hw _ (List.mem_of_getElem? (i := 78) rfl))) (mvT hZ47 (hw _ (List.mem_of_getElem? (i := 79) rfl))) (notFace_of_selects (args := #[]) (mvT hZ47 (hw _ (List.mem_of_getElem? (i := 81) rfl)))) (mvT hZ47 (hw _ (List.mem_of_getElem? (i := 81) rfl))) (mvT hZ47 (hw _ (List.mem_of_getElem? (i := 80) rfl))) (by decide) (backOf (W := 0) (rm_alw3 l Z a0 hw [] wG1 wO2 wP5 wG3 wO4 wrG3 hstr hEL T48.heap n0 Ol48 b43 x_41 t_41 k_41 qq c0 c1 c2 fq48_1 F48_267 F48_268 F48_269 F48_270 hz1 hl_c0 hl_c1 hl_c2) hZ47 (hw _ (List.mem_of_getElem? (i := 82) rfl)) (hw _ (List.mem_of_getElem? (i := 50) rfl)) (by decide) (by decide)) q56a q56c (g := (mkF m 184 #[.val (.int p1), .val (.int p2), .val (.int (3 : Int32)), .val (.int (((p2.toUInt32 >>> ((2 : Int32) &&& 31).toUInt32).toInt32) &&& (3 : Int32))), .val (.int c0), .val (.int c1), .val (.int c2), .val (.int c3), .val (.int qq), .val (.ref x_41), .val (.ref x_42), .val (.ref b43), .val (.int (1 : Int32))] [(.int qq), (.ref b43)])) rfl (by rw [hml]; rfl) (Steps.refl _) (argsL := [(.int qq)]) (rest := []) (lenOf pd_92619605 rfl) rfl (by show 2 * 0 + _ ≤ _; exact Nat.le_of_eq rfl) (hb hby at_184) (fun _ _ => ⟨rfl, rfl, (by decide : 14 + 0 ≤ _), (by decide : 77 + 0 ≤ _)⟩)
            dsimp only [Pt.U, Pt.locs, Pt.cells, Pt.slots] at X56 l56 y56 z56 st56 hQ56
            subst l56 y56 z56
            obtain ⟨r_56, rfl, Nq56, eq56, pq56_0⟩ := hQ56
            refine OwnGoes.tr (T' := T56) (g' := (mkF m 187 #[.val (.int p1), .val (.int p2), .val (.int (3 : Int32)), .val (.int (((p2.toUInt32 >>> ((2 : Int32) &&& 31).toUInt32).toInt32) &&& (3 : Int32))), .val (.int c0), .val (.int c1), .val (.int c2), .val (.int c3), .val (.int qq), .val (.ref x_41), .val (.ref x_42), .val (.ref b43), .val (.int (1 : Int32))] [(.int r_56)])) st56 ?_
            have N56 := Fr.app N48 Nq56
            refine OwnGoes.step (T' := T56) (g' := (mkF m 189 #[.val (.int p1), .val (.int p2), .val (.int (3 : Int32)), .val (.int (((p2.toUInt32 >>> ((2 : Int32) &&& 31).toUInt32).toInt32) &&& (3 : Int32))), .val (.int c0), .val (.int c1), .val (.int c2), .val (.int c3), .val (.int qq), .val (.ref x_41), .val (.ref x_42), .val (.ref b43), .val (.int (1 : Int32))] [(.int (1 : Int32)), (.int r_56)])) (fun tgt kgo => ?_) ?_
            · show Steps p.tables e below (T56.setTop (mkF m 187 #[.val (.int p1), .val (.int p2), .val (.int (3 : Int32)), .val (.int (((p2.toUInt32 >>> ((2 : Int32) &&& 31).toUInt32).toInt32) &&& (3 : Int32))), .val (.int c0), .val (.int c1), .val (.int c2), .val (.int c3), .val (.int qq), .val (.ref x_41), .val (.ref x_42), .val (.ref b43), .val (.int (1 : Int32))] [(.int r_56)])) tgt
              refine XS.iload X56.here hx rfl (hb hby at_187) rfl ?_
              exact kgo
            rcases pq56_0 with ⟨hw1, rfl⟩ | ⟨hw1, rfl⟩
            · skip
              refine OwnGoes.step (T' := T56) (g' := (mkF m 197 #[.val (.int p1), .val (.int p2), .val (.int (3 : Int32)), .val (.int (((p2.toUInt32 >>> ((2 : Int32) &&& 31).toUInt32).toInt32) &&& (3 : Int32))), .val (.int c0), .val (.int c1), .val (.int c2), .val (.int c3), .val (.int qq), .val (.ref x_41), .val (.ref x_42), .val (.ref b43), .val (.int (1 : Int32))] [(.int (1 : Int32))])) (fun tgt kgo => ?_) ?_
              · show Steps p.tables e below (T56.setTop (mkF m 189 #[.val (.int p1), .val (.int p2), .val (.int (3 : Int32)), .val (.int (((p2.toUInt32 >>> ((2 : Int32) &&& 31).toUInt32).toInt32) &&& (3 : Int32))), .val (.int c0), .val (.int c1), .val (.int c2), .val (.int c3), .val (.int qq), .val (.ref x_41), .val (.ref x_42), .val (.ref b43), .val (.int (1 : Int32))] [(.int (1 : Int32)), (.int 1)])) tgt
                refine XS.icmpNo X56.here hx rfl (hb hby at_189) rfl (teq rfl).2 ?_
                show Steps p.tables e below (T56.setTop (mkF m 192 #[.val (.int p1), .val (.int p2), .val (.int (3 : Int32)), .val (.int (((p2.toUInt32 >>> ((2 : Int32) &&& 31).toUInt32).toInt32) &&& (3 : Int32))), .val (.int c0), .val (.int c1), .val (.int c2), .val (.int c3), .val (.int qq), .val (.ref x_41), .val (.ref x_42), .val (.ref b43), .val (.int (1 : Int32))] [])) tgt
                refine XS.iconst X56.here hx rfl (hb hby at_192) ?_
                show Steps p.tables e below (T56.setTop (mkF m 193 #[.val (.int p1), .val (.int p2), .val (.int (3 : Int32)), .val (.int (((p2.toUInt32 >>> ((2 : Int32) &&& 31).toUInt32).toInt32) &&& (3 : Int32))), .val (.int c0), .val (.int c1), .val (.int c2), .val (.int c3), .val (.int qq), .val (.ref x_41), .val (.ref x_42), .val (.ref b43), .val (.int (1 : Int32))] [(.int (1 : Int32))])) tgt
                refine XS.goto X56.here hx rfl (pc0 := 193) (pc' := 197) rfl (hb hby at_193) (by decide) (by decide) ?_
                exact kgo
              refine own_leaveW (Z := Z) (EL := consts_1) X56 hS47 (eq56 ▸ hk48) hlk (v := some (.int (1 : Int32))) (fun h => by rw [Bd.returns] at h; cases h) (fun fs hr => retN X56 hx (t := .boolean) Bd.returns (by simp) (hb hby at_197) (by rw [(by decide : nar .boolean (1 : Int32) = (1 : Int32))]; exact hr)) (by decide) (by decide) ?_ ?_
              · rw [hh, eq56]
                exact R48.trans (CHv.at X56 hZ47 hEL R48.1)
              show Q_law Z p1 p2 h0 n0 _ T56.heap _
              rw [eq56]
              exact ⟨rfl, N56⟩
            · skip
              exact absurd (Or.inr (Or.inr cc55)) hw1
          · skip
            refine OwnGoes.step (T' := T48) (g' := (mkF m 184 #[.val (.int p1), .val (.int p2), .val (.int (3 : Int32)), .val (.int (((p2.toUInt32 >>> ((2 : Int32) &&& 31).toUInt32).toInt32) &&& (3 : Int32))), .val (.int c0), .val (.int c1), .val (.int c2), .val (.int c3), .val (.int qq), .val (.ref x_41), .val (.ref x_42), .val (.ref b43), .val (.int (0 : Int32))] [(.int qq), (.ref b43)])) (fun tgt kgo => ?_) ?_
            · show Steps p.tables e below (T48.setTop (mkF m 170 #[.val (.int p1), .val (.int p2), .val (.int (3 : Int32)), .val (.int (((p2.toUInt32 >>> ((2 : Int32) &&& 31).toUInt32).toInt32) &&& (3 : Int32))), .val (.int c0), .val (.int c1), .val (.int c2), .val (.int c3), .val (.int qq), .val (.ref x_41), .val (.ref x_42), .val (.ref b43), .unset] [(.int c2), (.int qq)])) tgt
              refine XS.icmpYes X48.here hx rfl (pc0 := 170) (pc' := 177) rfl (hb hby at_170) rfl (feq cc55).2 (by decide) (by decide) ?_
              show Steps p.tables e below (T48.setTop (mkF m 177 #[.val (.int p1), .val (.int p2), .val (.int (3 : Int32)), .val (.int (((p2.toUInt32 >>> ((2 : Int32) &&& 31).toUInt32).toInt32) &&& (3 : Int32))), .val (.int c0), .val (.int c1), .val (.int c2), .val (.int c3), .val (.int qq), .val (.ref x_41), .val (.ref x_42), .val (.ref b43), .unset] [])) tgt
              refine XS.iconst X48.here hx rfl (hb hby at_177) ?_
              show Steps p.tables e below (T48.setTop (mkF m 178 #[.val (.int p1), .val (.int p2), .val (.int (3 : Int32)), .val (.int (((p2.toUInt32 >>> ((2 : Int32) &&& 31).toUInt32).toInt32) &&& (3 : Int32))), .val (.int c0), .val (.int c1), .val (.int c2), .val (.int c3), .val (.int qq), .val (.ref x_41), .val (.ref x_42), .val (.ref b43), .unset] [(.int (0 : Int32))])) tgt
              refine XS.istore X48.here hx rfl (hb hby at_178) rfl (l' := #[.val (.int p1), .val (.int p2), .val (.int (3 : Int32)), .val (.int (((p2.toUInt32 >>> ((2 : Int32) &&& 31).toUInt32).toInt32) &&& (3 : Int32))), .val (.int c0), .val (.int c1), .val (.int c2), .val (.int c3), .val (.int qq), .val (.ref x_41), .val (.ref x_42), .val (.ref b43), .val (.int (0 : Int32))]) rfl ?_
              show Steps p.tables e below (T48.setTop (mkF m 180 #[.val (.int p1), .val (.int p2), .val (.int (3 : Int32)), .val (.int (((p2.toUInt32 >>> ((2 : Int32) &&& 31).toUInt32).toInt32) &&& (3 : Int32))), .val (.int c0), .val (.int c1), .val (.int c2), .val (.int c3), .val (.int qq), .val (.ref x_41), .val (.ref x_42), .val (.ref b43), .val (.int (0 : Int32))] [])) tgt
              refine XS.aload X48.here hx rfl (hb hby at_180) rfl rfl ?_
              show Steps p.tables e below (T48.setTop (mkF m 182 #[.val (.int p1), .val (.int p2), .val (.int (3 : Int32)), .val (.int (((p2.toUInt32 >>> ((2 : Int32) &&& 31).toUInt32).toInt32) &&& (3 : Int32))), .val (.int c0), .val (.int c1), .val (.int c2), .val (.int c3), .val (.int qq), .val (.ref x_41), .val (.ref x_42), .val (.ref b43), .val (.int (0 : Int32))] [(.ref b43)])) tgt
              refine XS.iload X48.here hx rfl (hb hby at_182) rfl ?_
              exact kgo
            obtain ⟨cq58, kq58, q58a, q58b, q58c⟩ := isOf (s := (s.setVm T47.vm)) hZ47 rfl fq48_0
            obtain ⟨_, _, ⟨T58, L58, k58, n58⟩, -, X58, ⟨Lc58, hQ58, l58, y58, z58⟩, st58⟩ := X48.virtualBack hx (y := (⟨"com/example/fieldwright/fieldwright/FieldStructure", "allows", "(C)Z"⟩ : MethodName)) (z := (⟨"com/example/fieldwright/fieldwright/FieldStructure", "allows", "(C)Z"⟩ : MethodName)) ho47 (mvT hZ47 (hw _ (List.mem_of_getElem? (i := 78) rfl))) (mvT hZ47 (hw _ (List.mem_of_getElem? (i := 79) rfl))) (notFace_of_selects (args := #[]) (mvT hZ47 (hw _ (List.mem_of_getElem? (i := 81) rfl)))) (mvT hZ47 (hw _ (List.mem_of_getElem? (i := 81) rfl))) (mvT hZ47 (hw _ (List.mem_of_getElem? (i := 80) rfl))) (by decide) (backOf (W := 0) (rm_alw3 l Z a0 hw [] wG1 wO2 wP5 wG3 wO4 wrG3 hstr hEL T48.heap n0 Ol48 b43 x_41 t_41 k_41 qq c0 c1 c2 fq48_1 F48_267 F48_268 F48_269 F48_270 hz1 hl_c0 hl_c1 hl_c2) hZ47 (hw _ (List.mem_of_getElem? (i := 82) rfl)) (hw _ (List.mem_of_getElem? (i := 50) rfl)) (by decide) (by decide)) q58a q58c (g := (mkF m 184 #[.val (.int p1), .val (.int p2), .val (.int (3 : Int32)), .val (.int (((p2.toUInt32 >>> ((2 : Int32) &&& 31).toUInt32).toInt32) &&& (3 : Int32))), .val (.int c0), .val (.int c1), .val (.int c2), .val (.int c3), .val (.int qq), .val (.ref x_41), .val (.ref x_42), .val (.ref b43), .val (.int (0 : Int32))] [(.int qq), (.ref b43)])) rfl (by rw [hml]; rfl) (Steps.refl _) (argsL := [(.int qq)]) (rest := []) (lenOf pd_92619605 rfl) rfl (by show 2 * 0 + _ ≤ _; exact Nat.le_of_eq rfl) (hb hby at_184) (fun _ _ => ⟨rfl, rfl, (by decide : 14 + 0 ≤ _), (by decide : 77 + 0 ≤ _)⟩)
            dsimp only [Pt.U, Pt.locs, Pt.cells, Pt.slots] at X58 l58 y58 z58 st58 hQ58
            subst l58 y58 z58
            obtain ⟨r_58, rfl, Nq58, eq58, pq58_0⟩ := hQ58
            refine OwnGoes.tr (T' := T58) (g' := (mkF m 187 #[.val (.int p1), .val (.int p2), .val (.int (3 : Int32)), .val (.int (((p2.toUInt32 >>> ((2 : Int32) &&& 31).toUInt32).toInt32) &&& (3 : Int32))), .val (.int c0), .val (.int c1), .val (.int c2), .val (.int c3), .val (.int qq), .val (.ref x_41), .val (.ref x_42), .val (.ref b43), .val (.int (0 : Int32))] [(.int r_58)])) st58 ?_
            have N58 := Fr.app N48 Nq58
            refine OwnGoes.step (T' := T58) (g' := (mkF m 189 #[.val (.int p1), .val (.int p2), .val (.int (3 : Int32)), .val (.int (((p2.toUInt32 >>> ((2 : Int32) &&& 31).toUInt32).toInt32) &&& (3 : Int32))), .val (.int c0), .val (.int c1), .val (.int c2), .val (.int c3), .val (.int qq), .val (.ref x_41), .val (.ref x_42), .val (.ref b43), .val (.int (0 : Int32))] [(.int (0 : Int32)), (.int r_58)])) (fun tgt kgo => ?_) ?_
            · show Steps p.tables e below (T58.setTop (mkF m 187 #[.val (.int p1), .val (.int p2), .val (.int (3 : Int32)), .val (.int (((p2.toUInt32 >>> ((2 : Int32) &&& 31).toUInt32).toInt32) &&& (3 : Int32))), .val (.int c0), .val (.int c1), .val (.int c2), .val (.int c3), .val (.int qq), .val (.ref x_41), .val (.ref x_42), .val (.ref b43), .val (.int (0 : Int32))] [(.int r_58)])) tgt
              refine XS.iload X58.here hx rfl (hb hby at_187) rfl ?_
              exact kgo
            rcases pq58_0 with ⟨hw1, rfl⟩ | ⟨hw1, rfl⟩
            · skip
              exfalso
              rcases hw1 with hz | hz | hz
              · exact cc49 hz
              · exact cc52 hz
              · exact cc55 hz
            · skip
              refine OwnGoes.step (T' := T58) (g' := (mkF m 197 #[.val (.int p1), .val (.int p2), .val (.int (3 : Int32)), .val (.int (((p2.toUInt32 >>> ((2 : Int32) &&& 31).toUInt32).toInt32) &&& (3 : Int32))), .val (.int c0), .val (.int c1), .val (.int c2), .val (.int c3), .val (.int qq), .val (.ref x_41), .val (.ref x_42), .val (.ref b43), .val (.int (0 : Int32))] [(.int (1 : Int32))])) (fun tgt kgo => ?_) ?_
              · show Steps p.tables e below (T58.setTop (mkF m 189 #[.val (.int p1), .val (.int p2), .val (.int (3 : Int32)), .val (.int (((p2.toUInt32 >>> ((2 : Int32) &&& 31).toUInt32).toInt32) &&& (3 : Int32))), .val (.int c0), .val (.int c1), .val (.int c2), .val (.int c3), .val (.int qq), .val (.ref x_41), .val (.ref x_42), .val (.ref b43), .val (.int (0 : Int32))] [(.int (0 : Int32)), (.int 0)])) tgt
                refine XS.icmpNo X58.here hx rfl (hb hby at_189) rfl (teq rfl).2 ?_
                show Steps p.tables e below (T58.setTop (mkF m 192 #[.val (.int p1), .val (.int p2), .val (.int (3 : Int32)), .val (.int (((p2.toUInt32 >>> ((2 : Int32) &&& 31).toUInt32).toInt32) &&& (3 : Int32))), .val (.int c0), .val (.int c1), .val (.int c2), .val (.int c3), .val (.int qq), .val (.ref x_41), .val (.ref x_42), .val (.ref b43), .val (.int (0 : Int32))] [])) tgt
                refine XS.iconst X58.here hx rfl (hb hby at_192) ?_
                show Steps p.tables e below (T58.setTop (mkF m 193 #[.val (.int p1), .val (.int p2), .val (.int (3 : Int32)), .val (.int (((p2.toUInt32 >>> ((2 : Int32) &&& 31).toUInt32).toInt32) &&& (3 : Int32))), .val (.int c0), .val (.int c1), .val (.int c2), .val (.int c3), .val (.int qq), .val (.ref x_41), .val (.ref x_42), .val (.ref b43), .val (.int (0 : Int32))] [(.int (1 : Int32))])) tgt
                refine XS.goto X58.here hx rfl (pc0 := 193) (pc' := 197) rfl (hb hby at_193) (by decide) (by decide) ?_
                exact kgo
              refine own_leaveW (Z := Z) (EL := consts_1) X58 hS47 (eq58 ▸ hk48) hlk (v := some (.int (1 : Int32))) (fun h => by rw [Bd.returns] at h; cases h) (fun fs hr => retN X58 hx (t := .boolean) Bd.returns (by simp) (hb hby at_197) (by rw [(by decide : nar .boolean (1 : Int32) = (1 : Int32))]; exact hr)) (by decide) (by decide) ?_ ?_
              · rw [hh, eq58]
                exact R48.trans (CHv.at X58 hZ47 hEL R48.1)
              show Q_law Z p1 p2 h0 n0 _ T58.heap _
              rw [eq58]
              exact ⟨rfl, N58⟩
  by_cases cc60 : (((p2.toUInt32 >>> ((2 : Int32) &&& 31).toUInt32).toInt32) &&& (3 : Int32)) = (0 : Int32)
  · skip
    refine OwnGoes.step (T' := s₁) (g' := (mkF m 90 #[.val (.int p1), .val (.int p2), .val (.int (p2 &&& (3 : Int32))), .val (.int (((p2.toUInt32 >>> ((2 : Int32) &&& 31).toUInt32).toInt32) &&& (3 : Int32))), .val (.int c0), .val (.int c1), .val (.int c2), .val (.int c3), .val (.int c0), .unset, .unset, .unset, .unset] [])) (fun tgt kgo => ?_) ?_
    · show Steps p.tables e below (s₁.setTop (mkF m 52 #[.val (.int p1), .val (.int p2), .val (.int (p2 &&& (3 : Int32))), .val (.int (((p2.toUInt32 >>> ((2 : Int32) &&& 31).toUInt32).toInt32) &&& (3 : Int32))), .val (.int c0), .val (.int c1), .val (.int c2), .val (.int c3), .unset, .unset, .unset, .unset, .unset] [(.int (((p2.toUInt32 >>> ((2 : Int32) &&& 31).toUInt32).toInt32) &&& (3 : Int32)))])) tgt
      refine XS.ifNo X0.here hx rfl (hb hby at_52) rfl ((if0 _ _).trans (teq cc60).2) ?_
      show Steps p.tables e below (s₁.setTop (mkF m 55 #[.val (.int p1), .val (.int p2), .val (.int (p2 &&& (3 : Int32))), .val (.int (((p2.toUInt32 >>> ((2 : Int32) &&& 31).toUInt32).toInt32) &&& (3 : Int32))), .val (.int c0), .val (.int c1), .val (.int c2), .val (.int c3), .unset, .unset, .unset, .unset, .unset] [])) tgt
      refine XS.iload X0.here hx rfl (hb hby at_55) rfl ?_
      show Steps p.tables e below (s₁.setTop (mkF m 57 #[.val (.int p1), .val (.int p2), .val (.int (p2 &&& (3 : Int32))), .val (.int (((p2.toUInt32 >>> ((2 : Int32) &&& 31).toUInt32).toInt32) &&& (3 : Int32))), .val (.int c0), .val (.int c1), .val (.int c2), .val (.int c3), .unset, .unset, .unset, .unset, .unset] [(.int c0)])) tgt
      refine XS.istore X0.here hx rfl (hb hby at_57) rfl (l' := #[.val (.int p1), .val (.int p2), .val (.int (p2 &&& (3 : Int32))), .val (.int (((p2.toUInt32 >>> ((2 : Int32) &&& 31).toUInt32).toInt32) &&& (3 : Int32))), .val (.int c0), .val (.int c1), .val (.int c2), .val (.int c3), .val (.int c0), .unset, .unset, .unset, .unset]) rfl ?_
      show Steps p.tables e below (s₁.setTop (mkF m 59 #[.val (.int p1), .val (.int p2), .val (.int (p2 &&& (3 : Int32))), .val (.int (((p2.toUInt32 >>> ((2 : Int32) &&& 31).toUInt32).toInt32) &&& (3 : Int32))), .val (.int c0), .val (.int c1), .val (.int c2), .val (.int c3), .val (.int c0), .unset, .unset, .unset, .unset] [])) tgt
      refine XS.goto X0.here hx rfl (pc0 := 59) (pc' := 90) rfl (hb hby at_59) (by decide) (by decide) ?_
      exact kgo
    exact hj1 c0 hl_c0
  · skip
    refine OwnGoes.step (T' := s₁) (g' := (mkF m 64 #[.val (.int p1), .val (.int p2), .val (.int (p2 &&& (3 : Int32))), .val (.int (((p2.toUInt32 >>> ((2 : Int32) &&& 31).toUInt32).toInt32) &&& (3 : Int32))), .val (.int c0), .val (.int c1), .val (.int c2), .val (.int c3), .unset, .unset, .unset, .unset, .unset] [(.int (1 : Int32)), (.int (((p2.toUInt32 >>> ((2 : Int32) &&& 31).toUInt32).toInt32) &&& (3 : Int32)))])) (fun tgt kgo => ?_) ?_
    · show Steps p.tables e below (s₁.setTop (mkF m 52 #[.val (.int p1), .val (.int p2), .val (.int (p2 &&& (3 : Int32))), .val (.int (((p2.toUInt32 >>> ((2 : Int32) &&& 31).toUInt32).toInt32) &&& (3 : Int32))), .val (.int c0), .val (.int c1), .val (.int c2), .val (.int c3), .unset, .unset, .unset, .unset, .unset] [(.int (((p2.toUInt32 >>> ((2 : Int32) &&& 31).toUInt32).toInt32) &&& (3 : Int32)))])) tgt
      refine XS.ifYes X0.here hx rfl (pc0 := 52) (pc' := 62) rfl (hb hby at_52) rfl ((if0 _ _).trans (feq cc60).2) (by decide) (by decide) ?_
      show Steps p.tables e below (s₁.setTop (mkF m 62 #[.val (.int p1), .val (.int p2), .val (.int (p2 &&& (3 : Int32))), .val (.int (((p2.toUInt32 >>> ((2 : Int32) &&& 31).toUInt32).toInt32) &&& (3 : Int32))), .val (.int c0), .val (.int c1), .val (.int c2), .val (.int c3), .unset, .unset, .unset, .unset, .unset] [])) tgt
      refine XS.iloadN X0.here hx rfl (hb hby at_62) rfl ?_
      show Steps p.tables e below (s₁.setTop (mkF m 63 #[.val (.int p1), .val (.int p2), .val (.int (p2 &&& (3 : Int32))), .val (.int (((p2.toUInt32 >>> ((2 : Int32) &&& 31).toUInt32).toInt32) &&& (3 : Int32))), .val (.int c0), .val (.int c1), .val (.int c2), .val (.int c3), .unset, .unset, .unset, .unset, .unset] [(.int (((p2.toUInt32 >>> ((2 : Int32) &&& 31).toUInt32).toInt32) &&& (3 : Int32)))])) tgt
      refine XS.iconst X0.here hx rfl (hb hby at_63) ?_
      exact kgo
    by_cases cc61 : (((p2.toUInt32 >>> ((2 : Int32) &&& 31).toUInt32).toInt32) &&& (3 : Int32)) = (1 : Int32)
    · skip
      refine OwnGoes.step (T' := s₁) (g' := (mkF m 90 #[.val (.int p1), .val (.int p2), .val (.int (p2 &&& (3 : Int32))), .val (.int (((p2.toUInt32 >>> ((2 : Int32) &&& 31).toUInt32).toInt32) &&& (3 : Int32))), .val (.int c0), .val (.int c1), .val (.int c2), .val (.int c3), .val (.int c1), .unset, .unset, .unset, .unset] [])) (fun tgt kgo => ?_) ?_
      · show Steps p.tables e below (s₁.setTop (mkF m 64 #[.val (.int p1), .val (.int p2), .val (.int (p2 &&& (3 : Int32))), .val (.int (((p2.toUInt32 >>> ((2 : Int32) &&& 31).toUInt32).toInt32) &&& (3 : Int32))), .val (.int c0), .val (.int c1), .val (.int c2), .val (.int c3), .unset, .unset, .unset, .unset, .unset] [(.int (1 : Int32)), (.int (((p2.toUInt32 >>> ((2 : Int32) &&& 31).toUInt32).toInt32) &&& (3 : Int32)))])) tgt
        refine XS.icmpNo X0.here hx rfl (hb hby at_64) rfl (teq cc61).2 ?_
        show Steps p.tables e below (s₁.setTop (mkF m 67 #[.val (.int p1), .val (.int p2), .val (.int (p2 &&& (3 : Int32))), .val (.int (((p2.toUInt32 >>> ((2 : Int32) &&& 31).toUInt32).toInt32) &&& (3 : Int32))), .val (.int c0), .val (.int c1), .val (.int c2), .val (.int c3), .unset, .unset, .unset, .unset, .unset] [])) tgt
        refine XS.iload X0.here hx rfl (hb hby at_67) rfl ?_
        show Steps p.tables e below (s₁.setTop (mkF m 69 #[.val (.int p1), .val (.int p2), .val (.int (p2 &&& (3 : Int32))), .val (.int (((p2.toUInt32 >>> ((2 : Int32) &&& 31).toUInt32).toInt32) &&& (3 : Int32))), .val (.int c0), .val (.int c1), .val (.int c2), .val (.int c3), .unset, .unset, .unset, .unset, .unset] [(.int c1)])) tgt
        refine XS.istore X0.here hx rfl (hb hby at_69) rfl (l' := #[.val (.int p1), .val (.int p2), .val (.int (p2 &&& (3 : Int32))), .val (.int (((p2.toUInt32 >>> ((2 : Int32) &&& 31).toUInt32).toInt32) &&& (3 : Int32))), .val (.int c0), .val (.int c1), .val (.int c2), .val (.int c3), .val (.int c1), .unset, .unset, .unset, .unset]) rfl ?_
        show Steps p.tables e below (s₁.setTop (mkF m 71 #[.val (.int p1), .val (.int p2), .val (.int (p2 &&& (3 : Int32))), .val (.int (((p2.toUInt32 >>> ((2 : Int32) &&& 31).toUInt32).toInt32) &&& (3 : Int32))), .val (.int c0), .val (.int c1), .val (.int c2), .val (.int c3), .val (.int c1), .unset, .unset, .unset, .unset] [])) tgt
        refine XS.goto X0.here hx rfl (pc0 := 71) (pc' := 90) rfl (hb hby at_71) (by decide) (by decide) ?_
        exact kgo
      exact hj1 c1 hl_c1
    · skip
      refine OwnGoes.step (T' := s₁) (g' := (mkF m 76 #[.val (.int p1), .val (.int p2), .val (.int (p2 &&& (3 : Int32))), .val (.int (((p2.toUInt32 >>> ((2 : Int32) &&& 31).toUInt32).toInt32) &&& (3 : Int32))), .val (.int c0), .val (.int c1), .val (.int c2), .val (.int c3), .unset, .unset, .unset, .unset, .unset] [(.int (2 : Int32)), (.int (((p2.toUInt32 >>> ((2 : Int32) &&& 31).toUInt32).toInt32) &&& (3 : Int32)))])) (fun tgt kgo => ?_) ?_
      · show Steps p.tables e below (s₁.setTop (mkF m 64 #[.val (.int p1), .val (.int p2), .val (.int (p2 &&& (3 : Int32))), .val (.int (((p2.toUInt32 >>> ((2 : Int32) &&& 31).toUInt32).toInt32) &&& (3 : Int32))), .val (.int c0), .val (.int c1), .val (.int c2), .val (.int c3), .unset, .unset, .unset, .unset, .unset] [(.int (1 : Int32)), (.int (((p2.toUInt32 >>> ((2 : Int32) &&& 31).toUInt32).toInt32) &&& (3 : Int32)))])) tgt
        refine XS.icmpYes X0.here hx rfl (pc0 := 64) (pc' := 74) rfl (hb hby at_64) rfl (feq cc61).2 (by decide) (by decide) ?_
        show Steps p.tables e below (s₁.setTop (mkF m 74 #[.val (.int p1), .val (.int p2), .val (.int (p2 &&& (3 : Int32))), .val (.int (((p2.toUInt32 >>> ((2 : Int32) &&& 31).toUInt32).toInt32) &&& (3 : Int32))), .val (.int c0), .val (.int c1), .val (.int c2), .val (.int c3), .unset, .unset, .unset, .unset, .unset] [])) tgt
        refine XS.iloadN X0.here hx rfl (hb hby at_74) rfl ?_
        show Steps p.tables e below (s₁.setTop (mkF m 75 #[.val (.int p1), .val (.int p2), .val (.int (p2 &&& (3 : Int32))), .val (.int (((p2.toUInt32 >>> ((2 : Int32) &&& 31).toUInt32).toInt32) &&& (3 : Int32))), .val (.int c0), .val (.int c1), .val (.int c2), .val (.int c3), .unset, .unset, .unset, .unset, .unset] [(.int (((p2.toUInt32 >>> ((2 : Int32) &&& 31).toUInt32).toInt32) &&& (3 : Int32)))])) tgt
        refine XS.iconst X0.here hx rfl (hb hby at_75) ?_
        exact kgo
      by_cases cc62 : (((p2.toUInt32 >>> ((2 : Int32) &&& 31).toUInt32).toInt32) &&& (3 : Int32)) = (2 : Int32)
      · skip
        refine OwnGoes.step (T' := s₁) (g' := (mkF m 90 #[.val (.int p1), .val (.int p2), .val (.int (p2 &&& (3 : Int32))), .val (.int (((p2.toUInt32 >>> ((2 : Int32) &&& 31).toUInt32).toInt32) &&& (3 : Int32))), .val (.int c0), .val (.int c1), .val (.int c2), .val (.int c3), .val (.int c2), .unset, .unset, .unset, .unset] [])) (fun tgt kgo => ?_) ?_
        · show Steps p.tables e below (s₁.setTop (mkF m 76 #[.val (.int p1), .val (.int p2), .val (.int (p2 &&& (3 : Int32))), .val (.int (((p2.toUInt32 >>> ((2 : Int32) &&& 31).toUInt32).toInt32) &&& (3 : Int32))), .val (.int c0), .val (.int c1), .val (.int c2), .val (.int c3), .unset, .unset, .unset, .unset, .unset] [(.int (2 : Int32)), (.int (((p2.toUInt32 >>> ((2 : Int32) &&& 31).toUInt32).toInt32) &&& (3 : Int32)))])) tgt
          refine XS.icmpNo X0.here hx rfl (hb hby at_76) rfl (teq cc62).2 ?_
          show Steps p.tables e below (s₁.setTop (mkF m 79 #[.val (.int p1), .val (.int p2), .val (.int (p2 &&& (3 : Int32))), .val (.int (((p2.toUInt32 >>> ((2 : Int32) &&& 31).toUInt32).toInt32) &&& (3 : Int32))), .val (.int c0), .val (.int c1), .val (.int c2), .val (.int c3), .unset, .unset, .unset, .unset, .unset] [])) tgt
          refine XS.iload X0.here hx rfl (hb hby at_79) rfl ?_
          show Steps p.tables e below (s₁.setTop (mkF m 81 #[.val (.int p1), .val (.int p2), .val (.int (p2 &&& (3 : Int32))), .val (.int (((p2.toUInt32 >>> ((2 : Int32) &&& 31).toUInt32).toInt32) &&& (3 : Int32))), .val (.int c0), .val (.int c1), .val (.int c2), .val (.int c3), .unset, .unset, .unset, .unset, .unset] [(.int c2)])) tgt
          refine XS.istore X0.here hx rfl (hb hby at_81) rfl (l' := #[.val (.int p1), .val (.int p2), .val (.int (p2 &&& (3 : Int32))), .val (.int (((p2.toUInt32 >>> ((2 : Int32) &&& 31).toUInt32).toInt32) &&& (3 : Int32))), .val (.int c0), .val (.int c1), .val (.int c2), .val (.int c3), .val (.int c2), .unset, .unset, .unset, .unset]) rfl ?_
          show Steps p.tables e below (s₁.setTop (mkF m 83 #[.val (.int p1), .val (.int p2), .val (.int (p2 &&& (3 : Int32))), .val (.int (((p2.toUInt32 >>> ((2 : Int32) &&& 31).toUInt32).toInt32) &&& (3 : Int32))), .val (.int c0), .val (.int c1), .val (.int c2), .val (.int c3), .val (.int c2), .unset, .unset, .unset, .unset] [])) tgt
          refine XS.goto X0.here hx rfl (pc0 := 83) (pc' := 90) rfl (hb hby at_83) (by decide) (by decide) ?_
          exact kgo
        exact hj1 c2 hl_c2
      · skip
        refine OwnGoes.step (T' := s₁) (g' := (mkF m 90 #[.val (.int p1), .val (.int p2), .val (.int (p2 &&& (3 : Int32))), .val (.int (((p2.toUInt32 >>> ((2 : Int32) &&& 31).toUInt32).toInt32) &&& (3 : Int32))), .val (.int c0), .val (.int c1), .val (.int c2), .val (.int c3), .val (.int c3), .unset, .unset, .unset, .unset] [])) (fun tgt kgo => ?_) ?_
        · show Steps p.tables e below (s₁.setTop (mkF m 76 #[.val (.int p1), .val (.int p2), .val (.int (p2 &&& (3 : Int32))), .val (.int (((p2.toUInt32 >>> ((2 : Int32) &&& 31).toUInt32).toInt32) &&& (3 : Int32))), .val (.int c0), .val (.int c1), .val (.int c2), .val (.int c3), .unset, .unset, .unset, .unset, .unset] [(.int (2 : Int32)), (.int (((p2.toUInt32 >>> ((2 : Int32) &&& 31).toUInt32).toInt32) &&& (3 : Int32)))])) tgt
          refine XS.icmpYes X0.here hx rfl (pc0 := 76) (pc' := 86) rfl (hb hby at_76) rfl (feq cc62).2 (by decide) (by decide) ?_
          show Steps p.tables e below (s₁.setTop (mkF m 86 #[.val (.int p1), .val (.int p2), .val (.int (p2 &&& (3 : Int32))), .val (.int (((p2.toUInt32 >>> ((2 : Int32) &&& 31).toUInt32).toInt32) &&& (3 : Int32))), .val (.int c0), .val (.int c1), .val (.int c2), .val (.int c3), .unset, .unset, .unset, .unset, .unset] [])) tgt
          refine XS.iload X0.here hx rfl (hb hby at_86) rfl ?_
          show Steps p.tables e below (s₁.setTop (mkF m 88 #[.val (.int p1), .val (.int p2), .val (.int (p2 &&& (3 : Int32))), .val (.int (((p2.toUInt32 >>> ((2 : Int32) &&& 31).toUInt32).toInt32) &&& (3 : Int32))), .val (.int c0), .val (.int c1), .val (.int c2), .val (.int c3), .unset, .unset, .unset, .unset, .unset] [(.int c3)])) tgt
          refine XS.istore X0.here hx rfl (hb hby at_88) rfl (l' := #[.val (.int p1), .val (.int p2), .val (.int (p2 &&& (3 : Int32))), .val (.int (((p2.toUInt32 >>> ((2 : Int32) &&& 31).toUInt32).toInt32) &&& (3 : Int32))), .val (.int c0), .val (.int c1), .val (.int c2), .val (.int c3), .val (.int c3), .unset, .unset, .unset, .unset]) rfl ?_
          exact kgo
        exact hj1 c3 hl_c3
set_option maxRecDepth 65536 in
set_option maxHeartbeats 40000000 in
theorem comes_1 {Post : Tables → Env → Array Value → State → Outcome → State → Prop} (hpost : ∀ tb e args s v u, (limb_1_1.after args s (.returned v) u = true ∧ limb_1_2.after args s (.returned v) u = true ∧ True) → ReturnedEndW s (.returned v) u (Jvm.fieldLocs frame_1_writes args s ++ Jvm.arrayLocs frame_1_arrays args s ++ Jvm.staticLocs frame_1_statics s) 32 5248 → Post tb e args s (.returned v) u) :
    ArmFor flags0 classFile x code maxLocals ret World_1 tables_1 room_1 Calls_1 rest_1 Pre_1 Post := by
  intro l hfl _ _ p e ha hc hk s m args below hf hA hF happ hP
  obtain ⟨hcalls, hrest, hpre⟩ := hP
  obtain ⟨-, -, -, hnamed, -, -, -, hat⟩ := (Spec.applies_iff hf).mp happ
  obtain ⟨hg, hn⟩ := and_e (Cond.before_iff.mp (show (Jvm.Cond.and given_1 narrow_1).before args s = true from hpre))
  obtain ⟨gc, gr0⟩ := and_e hg
  obtain ⟨ga0, gr1⟩ := and_e gr0
  obtain ⟨w0, w1, rfl⟩ : ∃ w0 w1 : Value, args = #[w0, w1] := by
    have hs : args.size = 2 := by simpa [Cond.value, given_1] using gc
    obtain ⟨L⟩ := args
    match L, hs with
    | [w0, w1], _ => exact ⟨w0, w1, rfl⟩
  have hw := fun d (hd : d ∈ tables_1) => atoms_spec (ws := Jvm.Cond.code x code maxLocals ret :: tables_1) hat d (List.mem_cons_of_mem _ hd)
  have hfit : Fit s := fun {y c} hc i hi => by
    obtain ⟨ha, rfl⟩ := Array.getElem?_eq_some_iff.mp hc
    have q := List.all_eq_true.mp ((Array.all_eq_true_iff_forall_mem.mp hF) _ (Array.getElem_mem ha)) i (List.mem_range.mpr hi)
    simpa [Array.getElem?_eq_getElem hi] using q
  obtain ⟨hsets, hown0⟩ := atoms_of _ (rest_1_c_eq ▸ (show rest_1_c.before _ s = true from hrest))
  obtain ⟨i0, ei0⟩ := is_v ga0
  obtain rfl : w0 = (.int i0) := Option.some.inj ei0
  obtain ⟨i1, ei1⟩ := is_v gr1
  obtain rfl : w1 = (.int i1) := Option.some.inj ei1
  obtain ⟨wG1, e10⟩ := is_v (Cond.before_iff.mp (hsets _ (List.mem_of_getElem? (i := 1) rfl)))
  have wO2 : Sta s s.heap "java/lang/String" "COMPACT_STRINGS" "Z" (.int wG1) := Sta.start e10 (Or.inl (hsets _ (List.mem_of_getElem? (i := 0) rfl)))
  have wP5 : ¬ (wG1 = (0 : Int32)) := gotF (Cond.eq_ints e10 (Term.int_eval (0))) (not_v (Cond.before_iff.mp (hsets _ (List.mem_of_getElem? (i := 2) rfl))))
  obtain ⟨wG3, e14, wrG3⟩ := isR_v (Cond.before_iff.mp (hsets _ (List.mem_of_getElem? (i := 8) rfl)))
  have wO4 : Sta s s.heap "jdk/internal/util/Preconditions" "SIOOBE_FORMATTER" "Ljava/util/function/BiFunction;" wG3 := Sta.start e14 (Or.inl (hsets _ (List.mem_of_getElem? (i := 7) rfl)))
  have hstr : ∀ a ∈ Bundle.stringAtoms, a.before _ s = true := fun d hd => hw d ((by decide +kernel : ∀ d ∈ Bundle.stringAtoms, d ∈ tables_1) d hd)
  have hEL : EW s _ consts_1 := (EW.cons (hw _ (List.mem_of_getElem? (i := 51) rfl)) (by decide) (EW.cons (hw _ (List.mem_of_getElem? (i := 54) rfl)) (by decide) (EW.cons (hw _ (List.mem_of_getElem? (i := 55) rfl)) (by decide) (EW.cons (hw _ (List.mem_of_getElem? (i := 56) rfl)) (by decide) (EW.cons (hw _ (List.mem_of_getElem? (i := 124) rfl)) (by decide) EW.nil)))))
  have hcw : Jvm.Lit.compactW.before _ s = true := (hsets _ (List.mem_of_getElem? (i := 2) rfl))
  have hH : CHv s consts_1 s.vm s.heap := CHv.start hEL (fun p hp => hcalls.1 p hp) hcw (hstr _ (by simp [Bundle.stringAtoms])) (hstr _ (by simp [Bundle.stringAtoms, Bundle.sN]))
  obtain ⟨n, o, h1, h2, h3, _, L, rfl, ⟨rfl, N⟩, -, hq⟩ := rm_law l s _ hw tables_1 wG1 wO2 wP5 wG3 wO4 wrG3 hstr hEL s.heap s.heap.size (Old.start s) i0 i1 p e ha hc hk s m _ below hf ((Spec.applies_iff_loose hf).mp happ).1 ⟨rfl, State.Warmed39.refl s, rfl, hH⟩ trivial
  refine ⟨n, _, h1, h2, h3, hpost _ _ _ _ _ _ ⟨Cond.after_iff.mpr rfl, Cond.after_iff.mpr (eq_i res_at (Term.int_eval (1)) rfl), trivial⟩ ⟨hq.1, hq.2.1, hq.2.2.1, (hq.2.2.2.sift fun y hy => Or.inr (N y hy)).mono (by decide) (by decide)⟩⟩
theorem main_1_1 : Claimed_1_1 := comes_1 fun _ _ _ _ _ _ h hF => ⟨h.1, hF⟩
theorem main_1_2 : Claimed_1_2 := comes_1 fun _ _ _ _ _ _ h hF => ⟨h.2.1, hF⟩
end Jvm.Pilot.@@N@@
namespace Jvm.Pilot.@@N@@
open Jvm Jvm.ClassFile Sem Op Lib Jvm.Free Jvm.Stand Jvm.Pilot.@@N@@.Jvm.D
/-! MADE BY PROGRAM (witnessworld.py) out of the Statement's table words and the real class files: 22 classes; the members and pool entries that the words name. The judged class is class 1, her method 2. -/
namespace start1
open Jvm.ClassFile
def u (s : String) : CpInfo := .utf8 (stringToUtf16 s)
/-- a pool by its gaps: so many unusable entries, then the entry; so many at the end -/
def gap : Nat → List CpInfo → List CpInfo
  | 0, r => r
  | n + 1, r => .unusable :: gap n r
def poolList (es : List (Nat × CpInfo)) (last : Nat) : List CpInfo := es.foldr (fun e r => gap e.1 (e.2 :: r)) (gap last [])
def pool (es : List (Nat × CpInfo)) (last : Nat) : Array CpInfo := ⟨poolList es last⟩
def fileOf (pool : Array CpInfo) (this : Nat) (attrs : Array Attribute := #[]) (ms : Array MethodInfo := #[]) (fl : Nat := 33) (sup : Nat := 0) (ifs : Array Nat := #[]) (fds : Array FieldInfo := #[]) : ClassFile where
  minorVersion := 0
  majorVersion := 65
  constantPool := pool
  accessFlags := fl
  thisClass := this
  superClass := sup
  interfaces := ifs
  fields := fds
  methods := ms
  attributes := attrs
def plain (name : String) (sup : Option ClassId) : Class where
  name := name
  kind := .ordinary
  loader := none
  accessFlags := 33
  super := sup
  interfaces := #[]
  cf := none
  fields := #[]
  methods := #[]
  instanceTypes := #[]
  staticTypes := #[]
  resolved := #[]
  callSites := []
  init := .initialized
  statics := none
  mirror := none

def pool0 : Array CpInfo := pool [(5, u "<init>"), (0, u "()V"), (1, .class_ 10), (1, u "java/lang/Object")] 113

def k0c0 : Code := { maxStack := 0, maxLocals := 1, code := object_method_1_code, exceptionTable := #[], attributes := #[] }
def k0m0 : Method := { name := "<init>", desc := "()V", sig := { parameters := [], returnType := none }, accessFlags := 1, code := some k0c0 }
/-- java/lang/Object -/
def k0 : Class := { plain "java/lang/Object" none with
  accessFlags := 33
  interfaces := #[]
  cf := some (fileOf pool0 8 #[] #[{ accessFlags := 1, nameIndex := 5, descriptorIndex := 6, attributes := #[] }] 33 0 #[] #[])
  fields := #[]
  methods := #[k0m0]
  instanceTypes := #[]
  staticTypes := #[]
  resolved := Array.replicate 124 none
  statics := none }

def pool1 : Array CpInfo := pool [(2, .class_ 4), (1, u "java/lang/Object"), (0, u "<init>"), (0, u "()V"), (0, .class_ 8), (0, u "java/lang/String"), (0, .methodref 7 10), (0, .nameAndType 5 11), (0, u "([C)V"), (0, .methodref 13 14), (0, .class_ 15), (0, .nameAndType 16 17), (0, u "com/example/fieldwright/fieldwright/FieldStructureAllowsPinLaw"), (0, u "subs"), (0, u "(ICCC)Ljava/lang/String;"), (0, .methodref 7 19), (0, .nameAndType 20 21), (0, u "valueOf"), (0, u "(C)Ljava/lang/String;"), (0, .class_ 23), (0, u "com/example/fieldwright/fieldwright/FieldStructure"), (0, .string 25), (0, u "100"), (0, .string 27), (0, u " "), (0, .string 29), (0, u " 1"), (0, .string 31), (0, u "rule"), (0, .methodref 22 33), (0, .nameAndType 5 34), (0, u "(Ljava/lang/String;Ljava/lang/String;Ljava/lang/String;Ljava/lang/String;Ljava/lang/String;Ljava/lang/String;)V"), (0, .methodref 22 36), (0, .nameAndType 37 38), (0, u "allows"), (0, u "(C)Z"), (3, u "law"), (0, u "(II)Z")] 2

def k1m0 : Method := { name := "<init>", desc := "()V", sig := { parameters := [], returnType := none }, accessFlags := 2, code := none }
def k1c1 : Code := { maxStack := 6, maxLocals := 4, code := method_2_code, exceptionTable := #[], attributes := #[] }
def k1m1 : Method := { name := "subs", desc := "(ICCC)Ljava/lang/String;", sig := { parameters := [.int, .char, .char, .char], returnType := some (.object "java/lang/String") }, accessFlags := 10, code := some k1c1 }
def k1c2 : Code := { maxStack := 8, maxLocals := 13, code := code, exceptionTable := #[], attributes := #[] }
def k1m2 : Method := { name := "law", desc := "(II)Z", sig := { parameters := [.int, .int], returnType := some .boolean }, accessFlags := 9, code := some k1c2 }
/-- com/example/fieldwright/fieldwright/FieldStructureAllowsPinLaw -/
def k1 : Class := { plain "com/example/fieldwright/fieldwright/FieldStructureAllowsPinLaw" (some 0) with
  accessFlags := 49
  interfaces := #[]
  cf := some (fileOf pool1 13 #[] #[{ accessFlags := 2, nameIndex := 5, descriptorIndex := 6, attributes := #[] }, { accessFlags := 10, nameIndex := 16, descriptorIndex := 17, attributes := #[] }, { accessFlags := 9, nameIndex := 42, descriptorIndex := 43, attributes := #[] }] 49 2 #[] #[])
  fields := #[]
  methods := #[k1m0, k1m1, k1m2]
  instanceTypes := #[]
  staticTypes := #[]
  resolved := Array.replicate 46 none
  statics := none }

def pool2 : Array CpInfo := pool [(1, .class_ 2), (0, u "java/io/Serializable"), (0, .class_ 4), (0, u "java/lang/Object")] 2

/-- java/io/Serializable -/
def k2 : Class := { plain "java/io/Serializable" (some 0) with
  accessFlags := 1537
  interfaces := #[]
  cf := some (fileOf pool2 1 #[] #[] 1537 3 #[] #[])
  fields := #[]
  methods := #[]
  instanceTypes := #[]
  staticTypes := #[]
  resolved := Array.replicate 7 none
  statics := none }

def pool3 : Array CpInfo := pool [(1, .class_ 2), (0, u "java/lang/Comparable"), (0, .class_ 4), (0, u "java/lang/Object")] 7

/-- java/lang/Comparable -/
def k3 : Class := { plain "java/lang/Comparable" (some 0) with
  accessFlags := 1537
  interfaces := #[]
  cf := some (fileOf pool3 1 #[] #[] 1537 3 #[] #[])
  fields := #[]
  methods := #[]
  instanceTypes := #[]
  staticTypes := #[]
  resolved := Array.replicate 12 none
  statics := none }

def pool4 : Array CpInfo := pool [(2, .class_ 4), (1, u "java/lang/CharSequence"), (42, .class_ 48), (0, u "java/lang/CharSequence$1CodePointIterator"), (10, .class_ 60), (0, u "java/lang/CharSequence$1CharIterator"), (5, .class_ 67), (0, u "java/lang/Object")] 63

/-- java/lang/CharSequence -/
def k4 : Class := { plain "java/lang/CharSequence" (some 0) with
  accessFlags := 1537
  interfaces := #[]
  cf := some (fileOf pool4 2 #[.nestMembers #[47, 59]] #[] 1537 66 #[] #[])
  fields := #[]
  methods := #[]
  instanceTypes := #[]
  staticTypes := #[]
  resolved := Array.replicate 131 none
  statics := none }

def pool5 : Array CpInfo := pool [(1, .class_ 2), (0, u "java/lang/constant/Constable"), (0, .class_ 4), (0, u "java/lang/Object")] 6

/-- java/lang/constant/Constable -/
def k5 : Class := { plain "java/lang/constant/Constable" (some 0) with
  accessFlags := 1537
  interfaces := #[]
  cf := some (fileOf pool5 1 #[] #[] 1537 3 #[] #[])
  fields := #[]
  methods := #[]
  instanceTypes := #[]
  staticTypes := #[]
  resolved := Array.replicate 11 none
  statics := none }

def pool6 : Array CpInfo := pool [(1, .class_ 2), (0, u "java/lang/constant/ConstantDesc"), (0, .class_ 4), (0, u "java/lang/Object")] 32

/-- java/lang/constant/ConstantDesc -/
def k6 : Class := { plain "java/lang/constant/ConstantDesc" (some 0) with
  accessFlags := 1537
  interfaces := #[]
  cf := some (fileOf pool6 1 #[] #[] 1537 3 #[] #[])
  fields := #[]
  methods := #[]
  instanceTypes := #[]
  staticTypes := #[]
  resolved := Array.replicate 37 none
  statics := none }

def pool7 : Array CpInfo := pool [(1, .methodref 2 3), (0, .class_ 4), (0, .nameAndType 5 6), (0, u "java/lang/Object"), (0, u "<init>"), (0, u "()V"), (0, .string 8), (0, u ""), (0, .fieldref 10 11), (0, .class_ 12), (0, .nameAndType 13 14), (0, u "java/lang/String"), (0, u "value"), (0, u "[B"), (0, .fieldref 10 16), (0, .nameAndType 17 18), (0, u "coder"), (0, u "B"), (2, u "hash"), (0, u "I"), (2, u "hashIsZero"), (0, u "Z"), (0, .methodref 10 28), (0, .nameAndType 5 29), (0, u "([CIILjava/lang/Void;)V"), (8, .fieldref 10 39), (0, .nameAndType 40 26), (0, u "COMPACT_STRINGS"), (1, .class_ 44), (1, u "java/lang/StringUTF16"), (0, u "compress"), (1, .methodref 42 48), (0, .nameAndType 49 50), (0, u "coderFromArrayLen"), (0, u "([BI)B"), (2, u "toBytes"), (53, .class_ 109), (1, u "java/lang/StringLatin1"), (32, u "()Z"), (34, .methodref 42 178), (0, .nameAndType 45 179), (0, u "([CII)[B"), (29, .methodref 10 210), (0, .nameAndType 5 211), (0, u "([BB)V"), (122, u "()I"), (0, .methodref 10 336), (0, .nameAndType 17 337), (0, u "()B"), (31, u "(C)Z"), (122, .methodref 10 493), (0, .nameAndType 494 142), (0, u "isLatin1"), (10, .methodref 10 506), (0, .nameAndType 507 334), (0, u "length"), (67, .class_ 576), (0, u "java/lang/CharSequence"), (22, u "CASE_INSENSITIVE_ORDER"), (0, u "Ljava/util/Comparator;"), (32, .methodref 10 634), (0, .nameAndType 635 636), (0, u "indexOf"), (0, u "(II)I"), (0, .methodref 107 638), (0, .nameAndType 635 639), (0, u "([BIII)I"), (125, u "(I)I"), (16, u "valueOf"), (0, u "(C)Ljava/lang/String;"), (226, u "([C)V"), (4, .methodref 107 1016), (0, .nameAndType 1017 369), (0, u "canEncode"), (0, .methodref 107 1019), (0, .nameAndType 53 1020), (0, u "(C)[B"), (80, u "serialPersistentFields"), (0, u "[Ljava/io/ObjectStreamField;"), (0, .class_ 1104), (0, u "java/lang/String$CaseInsensitiveComparator"), (1, .class_ 1107), (0, u "java/io/Serializable"), (0, .class_ 1109), (0, u "java/lang/Comparable"), (0, .class_ 1111), (0, u "java/lang/constant/Constable"), (0, .class_ 1113), (0, u "java/lang/constant/ConstantDesc"), (2, u "serialVersionUID"), (0, u "J"), (3, u "REPL"), (0, u "C"), (2, u "LATIN1"), (1, u "UTF16")] 323

def k7m0 : Method := { name := "<init>", desc := "()V", sig := { parameters := [], returnType := none }, accessFlags := 1, code := none }
def k7c1 : Code := { maxStack := 5, maxLocals := 2, code := jdk_42_method_3_code, exceptionTable := #[], attributes := #[] }
def k7m1 : Method := { name := "<init>", desc := "([C)V", sig := { parameters := [(.array .char)], returnType := none }, accessFlags := 1, code := some k7c1 }
def k7c2 : Code := { maxStack := 2, maxLocals := 1, code := jdk_42_method_54_code, exceptionTable := #[], attributes := #[] }
def k7m2 : Method := { name := "length", desc := "()I", sig := { parameters := [], returnType := some .int }, accessFlags := 1, code := some k7c2 }
def k7c3 : Code := { maxStack := 3, maxLocals := 2, code := jdk_42_method_79_code, exceptionTable := #[], attributes := #[] }
def k7m3 : Method := { name := "indexOf", desc := "(I)I", sig := { parameters := [.int], returnType := some .int }, accessFlags := 1, code := some k7c3 }
def k7c4 : Code := { maxStack := 4, maxLocals := 3, code := jdk_42_method_80_code, exceptionTable := #[], attributes := #[] }
def k7m4 : Method := { name := "indexOf", desc := "(II)I", sig := { parameters := [.int, .int], returnType := some .int }, accessFlags := 1, code := some k7c4 }
def k7c5 : Code := { maxStack := 4, maxLocals := 1, code := jdk_42_method_139_code, exceptionTable := #[], attributes := #[] }
def k7m5 : Method := { name := "valueOf", desc := "(C)Ljava/lang/String;", sig := { parameters := [.char], returnType := some (.object "java/lang/String") }, accessFlags := 9, code := some k7c5 }
def k7c6 : Code := { maxStack := 4, maxLocals := 6, code := jdk_42_method_149_code, exceptionTable := #[], attributes := #[] }
def k7m6 : Method := { name := "<init>", desc := "([CIILjava/lang/Void;)V", sig := { parameters := [(.array .char), .int, .int, (.object "java/lang/Void")], returnType := none }, accessFlags := 2, code := some k7c6 }
def k7c7 : Code := { maxStack := 2, maxLocals := 3, code := jdk_42_method_151_code, exceptionTable := #[], attributes := #[] }
def k7m7 : Method := { name := "<init>", desc := "([BB)V", sig := { parameters := [(.array .byte), .byte], returnType := none }, accessFlags := 0, code := some k7c7 }
def k7c8 : Code := { maxStack := 1, maxLocals := 1, code := jdk_42_method_152_code, exceptionTable := #[], attributes := #[] }
def k7m8 : Method := { name := "coder", desc := "()B", sig := { parameters := [], returnType := some .byte }, accessFlags := 0, code := some k7c8 }
def k7c9 : Code := { maxStack := 1, maxLocals := 1, code := jdk_42_method_154_code, exceptionTable := #[], attributes := #[] }
def k7m9 : Method := { name := "isLatin1", desc := "()Z", sig := { parameters := [], returnType := some .boolean }, accessFlags := 0, code := some k7c9 }
/-- java/lang/String -/
def k7 : Class := { plain "java/lang/String" (some 0) with
  accessFlags := 49
  interfaces := #[2, 3, 4, 5, 6]
  cf := some (fileOf pool7 10 #[.nestMembers #[1103]] #[{ accessFlags := 1, nameIndex := 5, descriptorIndex := 6, attributes := #[] }, { accessFlags := 1, nameIndex := 5, descriptorIndex := 1010, attributes := #[] }, { accessFlags := 1, nameIndex := 507, descriptorIndex := 334, attributes := #[] }, { accessFlags := 1, nameIndex := 635, descriptorIndex := 765, attributes := #[] }, { accessFlags := 1, nameIndex := 635, descriptorIndex := 636, attributes := #[] }, { accessFlags := 9, nameIndex := 782, descriptorIndex := 783, attributes := #[] }, { accessFlags := 2, nameIndex := 5, descriptorIndex := 29, attributes := #[] }, { accessFlags := 0, nameIndex := 5, descriptorIndex := 211, attributes := #[] }, { accessFlags := 0, nameIndex := 17, descriptorIndex := 337, attributes := #[] }, { accessFlags := 0, nameIndex := 494, descriptorIndex := 142, attributes := #[] }] 49 2 #[1106, 1108, 575, 1110, 1112] #[{ accessFlags := 18, nameIndex := 13, descriptorIndex := 14, attributes := #[] }, { accessFlags := 18, nameIndex := 17, descriptorIndex := 18, attributes := #[] }, { accessFlags := 2, nameIndex := 21, descriptorIndex := 22, attributes := #[] }, { accessFlags := 2, nameIndex := 25, descriptorIndex := 26, attributes := #[] }, { accessFlags := 26, nameIndex := 1116, descriptorIndex := 1117, attributes := #[] }, { accessFlags := 24, nameIndex := 40, descriptorIndex := 26, attributes := #[] }, { accessFlags := 26, nameIndex := 1101, descriptorIndex := 1102, attributes := #[] }, { accessFlags := 26, nameIndex := 1121, descriptorIndex := 1122, attributes := #[] }, { accessFlags := 25, nameIndex := 599, descriptorIndex := 600, attributes := #[] }, { accessFlags := 24, nameIndex := 1125, descriptorIndex := 18, attributes := #[] }, { accessFlags := 24, nameIndex := 1127, descriptorIndex := 18, attributes := #[] }])
  fields := #[{ name := "value", type := (.array .byte), accessFlags := 18, slot := 0, constantValue := 0 }, { name := "coder", type := .byte, accessFlags := 18, slot := 1, constantValue := 0 }, { name := "hash", type := .int, accessFlags := 2, slot := 2, constantValue := 0 }, { name := "hashIsZero", type := .boolean, accessFlags := 2, slot := 3, constantValue := 0 }, { name := "serialVersionUID", type := .long, accessFlags := 26, slot := 0, constantValue := 0 }, { name := "COMPACT_STRINGS", type := .boolean, accessFlags := 24, slot := 1, constantValue := 0 }, { name := "serialPersistentFields", type := (.array (.object "java/io/ObjectStreamField")), accessFlags := 26, slot := 2, constantValue := 0 }, { name := "REPL", type := .char, accessFlags := 26, slot := 3, constantValue := 0 }, { name := "CASE_INSENSITIVE_ORDER", type := (.object "java/util/Comparator"), accessFlags := 25, slot := 4, constantValue := 0 }, { name := "LATIN1", type := .byte, accessFlags := 24, slot := 5, constantValue := 0 }, { name := "UTF16", type := .byte, accessFlags := 24, slot := 6, constantValue := 0 }]
  methods := #[k7m0, k7m1, k7m2, k7m3, k7m4, k7m5, k7m6, k7m7, k7m8, k7m9]
  instanceTypes := #[(.array .byte), .byte, .int, .boolean]
  staticTypes := #[.long, .boolean, (.array (.object "java/io/ObjectStreamField")), .char, (.object "java/util/Comparator"), .byte, .byte]
  resolved := Array.replicate 1451 none
  statics := some 0 }

def pool8 : Array CpInfo := pool [(6, .class_ 8), (1, u "java/lang/Object"), (0, u "<init>"), (0, u "()V"), (1, .class_ 14), (1, u "java/lang/StringUTF16"), (31, u "$assertionsDisabled"), (0, u "Z"), (13, u "HI_BYTE_SHIFT"), (0, u "I"), (2, u "LO_BYTE_SHIFT"), (49, .methodref 12 116), (0, .nameAndType 117 118), (0, u "compress"), (0, u "([CI[BII)I"), (3, u "([CII)[B"), (138, u "coderFromArrayLen"), (0, u "([BI)B"), (106, .class_ 371), (1, u "java/lang/StringUTF16$LinesSpliterator"), (58, u "MAX_LENGTH"), (196, .class_ 628), (0, u "java/lang/StringUTF16$CodePointsSpliterator"), (0, .class_ 630), (0, u "java/lang/StringUTF16$CharsSpliterator")] 4

def k8m0 : Method := { name := "<init>", desc := "()V", sig := { parameters := [], returnType := none }, accessFlags := 0, code := none }
def k8c1 : Code := { maxStack := 2, maxLocals := 2, code := jdk_52_method_15_code, exceptionTable := #[], attributes := #[] }
def k8m1 : Method := { name := "coderFromArrayLen", desc := "([BI)B", sig := { parameters := [(.array .byte), .int], returnType := some .byte }, accessFlags := 8, code := some k8c1 }
def k8c2 : Code := { maxStack := 5, maxLocals := 6, code := jdk_52_method_16_code, exceptionTable := #[], attributes := #[] }
def k8m2 : Method := { name := "compress", desc := "([CII)[B", sig := { parameters := [(.array .char), .int, .int], returnType := some (.array .byte) }, accessFlags := 9, code := some k8c2 }
def k8c3 : Code := { maxStack := 3, maxLocals := 7, code := jdk_52_method_21_code, exceptionTable := #[], attributes := #[] }
def k8m3 : Method := { name := "compress", desc := "([CI[BII)I", sig := { parameters := [(.array .char), .int, (.array .byte), .int, .int], returnType := some .int }, accessFlags := 9, code := some k8c3 }
/-- java/lang/StringUTF16 -/
def k8 : Class := { plain "java/lang/StringUTF16" (some 0) with
  accessFlags := 48
  interfaces := #[]
  cf := some (fileOf pool8 12 #[.nestMembers #[627, 629, 369]] #[{ accessFlags := 0, nameIndex := 9, descriptorIndex := 10, attributes := #[] }, { accessFlags := 8, nameIndex := 261, descriptorIndex := 262, attributes := #[] }, { accessFlags := 9, nameIndex := 117, descriptorIndex := 122, attributes := #[] }, { accessFlags := 9, nameIndex := 117, descriptorIndex := 118, attributes := #[] }] 48 6 #[] #[{ accessFlags := 26, nameIndex := 61, descriptorIndex := 62, attributes := #[] }, { accessFlags := 26, nameIndex := 65, descriptorIndex := 62, attributes := #[] }, { accessFlags := 24, nameIndex := 430, descriptorIndex := 62, attributes := #[] }, { accessFlags := 4120, nameIndex := 46, descriptorIndex := 47, attributes := #[] }])
  fields := #[{ name := "HI_BYTE_SHIFT", type := .int, accessFlags := 26, slot := 0, constantValue := 0 }, { name := "LO_BYTE_SHIFT", type := .int, accessFlags := 26, slot := 1, constantValue := 0 }, { name := "MAX_LENGTH", type := .int, accessFlags := 24, slot := 2, constantValue := 0 }, { name := "$assertionsDisabled", type := .boolean, accessFlags := 4120, slot := 3, constantValue := 0 }]
  methods := #[k8m0, k8m1, k8m2, k8m3]
  instanceTypes := #[]
  staticTypes := #[.int, .int, .int, .boolean]
  resolved := Array.replicate 635 none
  statics := none }

def pool9 : Array CpInfo := pool [(4, .class_ 6), (1, u "java/lang/Object"), (0, u "<init>"), (0, u "()V"), (5, .class_ 16), (1, u "java/lang/StringLatin1"), (21, .methodref 39 40), (0, .class_ 41), (0, .nameAndType 42 43), (0, u "java/lang/Math"), (0, u "min"), (0, u "(II)I"), (44, .methodref 14 89), (0, .nameAndType 90 91), (0, u "canEncode"), (0, u "(I)Z"), (0, .methodref 39 93), (0, .nameAndType 94 43), (0, u "max"), (0, .methodref 14 96), (0, .nameAndType 97 98), (0, u "indexOfChar"), (0, u "([BIII)I"), (2, u "indexOf"), (3, u "(C)Z"), (15, u "$assertionsDisabled"), (0, u "Z"), (98, .class_ 223), (1, u "java/lang/StringLatin1$LinesSpliterator"), (156, u "toBytes"), (1, u "(C)[B"), (7, .class_ 391), (0, u "java/lang/StringLatin1$CharsSpliterator")] 3

def k9m0 : Method := { name := "<init>", desc := "()V", sig := { parameters := [], returnType := none }, accessFlags := 0, code := none }
def k9c1 : Code := { maxStack := 2, maxLocals := 1, code := jdk_43_method_3_code, exceptionTable := #[], attributes := #[] }
def k9m1 : Method := { name := "canEncode", desc := "(C)Z", sig := { parameters := [.char], returnType := some .boolean }, accessFlags := 9, code := some k9c1 }
def k9c2 : Code := { maxStack := 2, maxLocals := 1, code := jdk_43_method_4_code, exceptionTable := #[], attributes := #[] }
def k9m2 : Method := { name := "canEncode", desc := "(I)Z", sig := { parameters := [.int], returnType := some .boolean }, accessFlags := 9, code := some k9c2 }
def k9c3 : Code := { maxStack := 4, maxLocals := 4, code := jdk_43_method_22_code, exceptionTable := #[], attributes := #[] }
def k9m3 : Method := { name := "indexOf", desc := "([BIII)I", sig := { parameters := [(.array .byte), .int, .int, .int], returnType := some .int }, accessFlags := 9, code := some k9c3 }
def k9c4 : Code := { maxStack := 2, maxLocals := 6, code := jdk_43_method_23_code, exceptionTable := #[], attributes := #[] }
def k9m4 : Method := { name := "indexOfChar", desc := "([BIII)I", sig := { parameters := [(.array .byte), .int, .int, .int], returnType := some .int }, accessFlags := 10, code := some k9c4 }
def k9c5 : Code := { maxStack := 4, maxLocals := 1, code := jdk_43_method_46_code, exceptionTable := #[], attributes := #[] }
def k9m5 : Method := { name := "toBytes", desc := "(C)[B", sig := { parameters := [.char], returnType := some (.array .byte) }, accessFlags := 9, code := some k9c5 }
/-- java/lang/StringLatin1 -/
def k9 : Class := { plain "java/lang/StringLatin1" (some 0) with
  accessFlags := 48
  interfaces := #[]
  cf := some (fileOf pool9 14 #[.nestMembers #[390, 221]] #[{ accessFlags := 0, nameIndex := 7, descriptorIndex := 8, attributes := #[] }, { accessFlags := 9, nameIndex := 90, descriptorIndex := 105, attributes := #[] }, { accessFlags := 9, nameIndex := 90, descriptorIndex := 91, attributes := #[] }, { accessFlags := 9, nameIndex := 101, descriptorIndex := 98, attributes := #[] }, { accessFlags := 10, nameIndex := 97, descriptorIndex := 98, attributes := #[] }, { accessFlags := 9, nameIndex := 380, descriptorIndex := 382, attributes := #[] }] 48 4 #[] #[{ accessFlags := 4120, nameIndex := 121, descriptorIndex := 122, attributes := #[] }])
  fields := #[{ name := "$assertionsDisabled", type := .boolean, accessFlags := 4120, slot := 0, constantValue := 0 }]
  methods := #[k9m0, k9m1, k9m2, k9m3, k9m4, k9m5]
  instanceTypes := #[]
  staticTypes := #[.boolean]
  resolved := Array.replicate 395 none
  statics := none }

def pool10 : Array CpInfo := pool [(1, .methodref 2 3), (0, .class_ 4), (0, .nameAndType 5 6), (0, u "java/lang/Object"), (0, u "<init>"), (0, u "()V"), (0, .class_ 8), (0, u "java/lang/Record")] 13

def k10c0 : Code := { maxStack := 1, maxLocals := 1, code := jdk_30_method_1_code, exceptionTable := #[], attributes := #[] }
def k10m0 : Method := { name := "<init>", desc := "()V", sig := { parameters := [], returnType := none }, accessFlags := 4, code := some k10c0 }
/-- java/lang/Record -/
def k10 : Class := { plain "java/lang/Record" (some 0) with
  accessFlags := 1057
  interfaces := #[]
  cf := some (fileOf pool10 7 #[] #[{ accessFlags := 4, nameIndex := 5, descriptorIndex := 6, attributes := #[] }] 1057 2 #[] #[])
  fields := #[]
  methods := #[k10m0]
  instanceTypes := #[]
  staticTypes := #[]
  resolved := Array.replicate 22 none
  statics := none }

def pool11 : Array CpInfo := pool [(1, .methodref 2 3), (0, .class_ 4), (0, .nameAndType 5 6), (0, u "java/lang/Record"), (0, u "<init>"), (0, u "()V"), (0, .fieldref 8 9), (0, .class_ 10), (0, .nameAndType 11 12), (0, u "com/example/fieldwright/fieldwright/FieldStructure"), (0, u "tag"), (0, u "Ljava/lang/String;"), (0, .fieldref 8 14), (0, .nameAndType 15 12), (0, u "indicator1"), (0, .fieldref 8 17), (0, .nameAndType 18 12), (0, u "indicator2"), (0, .fieldref 8 20), (0, .nameAndType 21 12), (0, u "indicatorRule"), (0, .fieldref 8 23), (0, .nameAndType 24 12), (0, u "subfields"), (0, .fieldref 8 26), (0, .nameAndType 27 12), (0, u "repeatable"), (33, .class_ 63), (1, u "java/lang/String"), (41, .methodref 61 106), (0, .nameAndType 107 108), (0, u "indexOf"), (0, u "(I)I"), (27, u "allows"), (0, u "(C)Z"), (37, u "(Ljava/lang/String;Ljava/lang/String;Ljava/lang/String;Ljava/lang/String;Ljava/lang/String;Ljava/lang/String;)V")] 61

def k11c0 : Code := { maxStack := 2, maxLocals := 7, code := prog_18_method_1_code, exceptionTable := #[], attributes := #[] }
def k11m0 : Method := { name := "<init>", desc := "(Ljava/lang/String;Ljava/lang/String;Ljava/lang/String;Ljava/lang/String;Ljava/lang/String;Ljava/lang/String;)V", sig := { parameters := [(.object "java/lang/String"), (.object "java/lang/String"), (.object "java/lang/String"), (.object "java/lang/String"), (.object "java/lang/String"), (.object "java/lang/String")], returnType := none }, accessFlags := 0, code := some k11c0 }
def k11c1 : Code := { maxStack := 2, maxLocals := 2, code := prog_18_method_6_code, exceptionTable := #[], attributes := #[] }
def k11m1 : Method := { name := "allows", desc := "(C)Z", sig := { parameters := [.char], returnType := some .boolean }, accessFlags := 0, code := some k11c1 }
/-- com/example/fieldwright/fieldwright/FieldStructure -/
def k11 : Class := { plain "com/example/fieldwright/fieldwright/FieldStructure" (some 10) with
  accessFlags := 48
  interfaces := #[]
  cf := some (fileOf pool11 8 #[] #[{ accessFlags := 0, nameIndex := 5, descriptorIndex := 175, attributes := #[] }, { accessFlags := 0, nameIndex := 136, descriptorIndex := 137, attributes := #[] }] 48 2 #[] #[{ accessFlags := 18, nameIndex := 11, descriptorIndex := 12, attributes := #[] }, { accessFlags := 18, nameIndex := 15, descriptorIndex := 12, attributes := #[] }, { accessFlags := 18, nameIndex := 18, descriptorIndex := 12, attributes := #[] }, { accessFlags := 18, nameIndex := 21, descriptorIndex := 12, attributes := #[] }, { accessFlags := 18, nameIndex := 24, descriptorIndex := 12, attributes := #[] }, { accessFlags := 18, nameIndex := 27, descriptorIndex := 12, attributes := #[] }])
  fields := #[{ name := "tag", type := (.object "java/lang/String"), accessFlags := 18, slot := 0, constantValue := 0 }, { name := "indicator1", type := (.object "java/lang/String"), accessFlags := 18, slot := 1, constantValue := 0 }, { name := "indicator2", type := (.object "java/lang/String"), accessFlags := 18, slot := 2, constantValue := 0 }, { name := "indicatorRule", type := (.object "java/lang/String"), accessFlags := 18, slot := 3, constantValue := 0 }, { name := "subfields", type := (.object "java/lang/String"), accessFlags := 18, slot := 4, constantValue := 0 }, { name := "repeatable", type := (.object "java/lang/String"), accessFlags := 18, slot := 5, constantValue := 0 }]
  methods := #[k11m0, k11m1]
  instanceTypes := #[(.object "java/lang/String"), (.object "java/lang/String"), (.object "java/lang/String"), (.object "java/lang/String"), (.object "java/lang/String"), (.object "java/lang/String")]
  staticTypes := #[]
  resolved := Array.replicate 237 none
  statics := none }

def pool12 : Array CpInfo := pool [(1, .class_ 2), (0, u "java/lang/Math"), (1, .class_ 6), (1, u "java/lang/Object"), (0, u "<init>"), (0, u "()V"), (89, .class_ 100), (1, u "java/lang/Math$RandomNumberGeneratorHolder"), (71, u "negativeZeroFloatBits"), (0, u "J"), (2, u "negativeZeroDoubleBits"), (21, u "max"), (2, u "min"), (43, u "$assertionsDisabled"), (0, u "Z"), (88, u "(II)I"), (2, u "twoToTheDoubleScaleDown"), (0, u "D"), (4, u "twoToTheDoubleScaleUp"), (9, u "E"), (3, u "PI"), (2, u "TAU"), (2, u "DEGREES_TO_RADIANS"), (0, u "RADIANS_TO_DEGREES")] 94

def k12m0 : Method := { name := "<init>", desc := "()V", sig := { parameters := [], returnType := none }, accessFlags := 2, code := none }
def k12c1 : Code := { maxStack := 2, maxLocals := 2, code := jdk_29_method_65_code, exceptionTable := #[], attributes := #[] }
def k12m1 : Method := { name := "max", desc := "(II)I", sig := { parameters := [.int, .int], returnType := some .int }, accessFlags := 9, code := some k12c1 }
def k12c2 : Code := { maxStack := 2, maxLocals := 2, code := jdk_29_method_69_code, exceptionTable := #[], attributes := #[] }
def k12m2 : Method := { name := "min", desc := "(II)I", sig := { parameters := [.int, .int], returnType := some .int }, accessFlags := 9, code := some k12c2 }
/-- java/lang/Math -/
def k12 : Class := { plain "java/lang/Math" (some 0) with
  accessFlags := 49
  interfaces := #[]
  cf := some (fileOf pool12 1 #[.nestMembers #[98]] #[{ accessFlags := 2, nameIndex := 7, descriptorIndex := 8, attributes := #[] }, { accessFlags := 9, nameIndex := 198, descriptorIndex := 335, attributes := #[] }, { accessFlags := 9, nameIndex := 201, descriptorIndex := 335, attributes := #[] }] 49 4 #[] #[{ accessFlags := 25, nameIndex := 354, descriptorIndex := 339, attributes := #[] }, { accessFlags := 25, nameIndex := 358, descriptorIndex := 339, attributes := #[] }, { accessFlags := 25, nameIndex := 361, descriptorIndex := 339, attributes := #[] }, { accessFlags := 26, nameIndex := 364, descriptorIndex := 339, attributes := #[] }, { accessFlags := 26, nameIndex := 365, descriptorIndex := 339, attributes := #[] }, { accessFlags := 26, nameIndex := 172, descriptorIndex := 173, attributes := #[] }, { accessFlags := 26, nameIndex := 176, descriptorIndex := 173, attributes := #[] }, { accessFlags := 8, nameIndex := 344, descriptorIndex := 339, attributes := #[] }, { accessFlags := 8, nameIndex := 338, descriptorIndex := 339, attributes := #[] }, { accessFlags := 4120, nameIndex := 245, descriptorIndex := 246, attributes := #[] }])
  fields := #[{ name := "E", type := .double, accessFlags := 25, slot := 0, constantValue := 0 }, { name := "PI", type := .double, accessFlags := 25, slot := 1, constantValue := 0 }, { name := "TAU", type := .double, accessFlags := 25, slot := 2, constantValue := 0 }, { name := "DEGREES_TO_RADIANS", type := .double, accessFlags := 26, slot := 3, constantValue := 0 }, { name := "RADIANS_TO_DEGREES", type := .double, accessFlags := 26, slot := 4, constantValue := 0 }, { name := "negativeZeroFloatBits", type := .long, accessFlags := 26, slot := 5, constantValue := 0 }, { name := "negativeZeroDoubleBits", type := .long, accessFlags := 26, slot := 6, constantValue := 0 }, { name := "twoToTheDoubleScaleUp", type := .double, accessFlags := 8, slot := 7, constantValue := 0 }, { name := "twoToTheDoubleScaleDown", type := .double, accessFlags := 8, slot := 8, constantValue := 0 }, { name := "$assertionsDisabled", type := .boolean, accessFlags := 4120, slot := 9, constantValue := 0 }]
  methods := #[k12m0, k12m1, k12m2]
  instanceTypes := #[]
  staticTypes := #[.double, .double, .double, .double, .double, .long, .long, .double, .double, .boolean]
  resolved := Array.replicate 460 none
  statics := none }

def pool13 : Array CpInfo := pool [(2, .class_ 4), (1, u "java/lang/Object"), (0, u "<init>"), (0, u "()V"), (17, .class_ 26), (1, u "jdk/internal/util/Preconditions"), (28, .class_ 56), (0, u "jdk/internal/util/Preconditions$4"), (57, .class_ 115), (0, u "jdk/internal/util/Preconditions$1"), (7, u "SIOOBE_FORMATTER"), (0, u "Ljava/util/function/BiFunction;"), (0, .class_ 126), (0, u "jdk/internal/util/Preconditions$2"), (3, u "AIOOBE_FORMATTER"), (0, .class_ 132), (0, u "jdk/internal/util/Preconditions$3"), (3, u "IOOBE_FORMATTER")] 57

def k13m0 : Method := { name := "<init>", desc := "()V", sig := { parameters := [], returnType := none }, accessFlags := 1, code := none }
/-- jdk/internal/util/Preconditions -/
def k13 : Class := { plain "jdk/internal/util/Preconditions" (some 0) with
  accessFlags := 33
  interfaces := #[]
  cf := some (fileOf pool13 24 #[.nestMembers #[55, 131, 125, 114]] #[{ accessFlags := 1, nameIndex := 5, descriptorIndex := 6, attributes := #[] }] 33 2 #[] #[{ accessFlags := 25, nameIndex := 123, descriptorIndex := 124, attributes := #[] }, { accessFlags := 25, nameIndex := 130, descriptorIndex := 124, attributes := #[] }, { accessFlags := 25, nameIndex := 136, descriptorIndex := 124, attributes := #[] }])
  fields := #[{ name := "SIOOBE_FORMATTER", type := (.object "java/util/function/BiFunction"), accessFlags := 25, slot := 0, constantValue := 0 }, { name := "AIOOBE_FORMATTER", type := (.object "java/util/function/BiFunction"), accessFlags := 25, slot := 1, constantValue := 0 }, { name := "IOOBE_FORMATTER", type := (.object "java/util/function/BiFunction"), accessFlags := 25, slot := 2, constantValue := 0 }]
  methods := #[k13m0]
  instanceTypes := #[]
  staticTypes := #[(.object "java/util/function/BiFunction"), (.object "java/util/function/BiFunction"), (.object "java/util/function/BiFunction")]
  resolved := Array.replicate 194 none
  statics := some 1 }

def pool14 : Array CpInfo := pool [(9, u "<init>"), (6, .class_ 18), (1, u "java/lang/Object"), (0, u "()V"), (1, .class_ 23), (1, u "jdk/internal/util/ArraysSupport"), (0, u "LOG2_ARRAY_LONG_INDEX_SCALE"), (0, u "I"), (2, u "U"), (0, u "Ljdk/internal/misc/Unsafe;"), (8, u "BIG_ENDIAN"), (0, u "Z"), (8, u "LOG2_BYTE_BIT_SIZE"), (4, u "LOG2_ARRAY_INT_INDEX_SCALE"), (54, u "JLA"), (0, u "Ljdk/internal/access/JavaLangAccess;"), (11, u "LOG2_ARRAY_BOOLEAN_INDEX_SCALE"), (9, u "LOG2_ARRAY_BYTE_INDEX_SCALE"), (5, u "LOG2_ARRAY_CHAR_INDEX_SCALE"), (5, u "LOG2_ARRAY_SHORT_INDEX_SCALE"), (18, u "LOG2_ARRAY_FLOAT_INDEX_SCALE"), (24, u "LOG2_ARRAY_DOUBLE_INDEX_SCALE"), (89, u "T_BOOLEAN"), (2, u "T_CHAR"), (1, u "T_FLOAT"), (1, u "T_DOUBLE"), (1, u "T_BYTE"), (1, u "T_SHORT"), (1, u "T_INT"), (1, u "T_LONG"), (1, u "SOFT_MAX_ARRAY_LENGTH")] 83

def k14m0 : Method := { name := "<init>", desc := "()V", sig := { parameters := [], returnType := none }, accessFlags := 2, code := none }
/-- jdk/internal/util/ArraysSupport -/
def k14 : Class := { plain "jdk/internal/util/ArraysSupport" (some 0) with
  accessFlags := 33
  interfaces := #[]
  cf := some (fileOf pool14 21 #[] #[{ accessFlags := 2, nameIndex := 9, descriptorIndex := 19, attributes := #[] }] 33 16 #[] #[{ accessFlags := 24, nameIndex := 28, descriptorIndex := 29, attributes := #[] }, { accessFlags := 26, nameIndex := 38, descriptorIndex := 39, attributes := #[] }, { accessFlags := 25, nameIndex := 121, descriptorIndex := 25, attributes := #[] }, { accessFlags := 25, nameIndex := 131, descriptorIndex := 25, attributes := #[] }, { accessFlags := 25, nameIndex := 137, descriptorIndex := 25, attributes := #[] }, { accessFlags := 25, nameIndex := 143, descriptorIndex := 25, attributes := #[] }, { accessFlags := 25, nameIndex := 53, descriptorIndex := 25, attributes := #[] }, { accessFlags := 25, nameIndex := 24, descriptorIndex := 25, attributes := #[] }, { accessFlags := 25, nameIndex := 162, descriptorIndex := 25, attributes := #[] }, { accessFlags := 25, nameIndex := 187, descriptorIndex := 25, attributes := #[] }, { accessFlags := 26, nameIndex := 48, descriptorIndex := 25, attributes := #[] }, { accessFlags := 25, nameIndex := 277, descriptorIndex := 25, attributes := #[] }, { accessFlags := 25, nameIndex := 280, descriptorIndex := 25, attributes := #[] }, { accessFlags := 25, nameIndex := 282, descriptorIndex := 25, attributes := #[] }, { accessFlags := 25, nameIndex := 284, descriptorIndex := 25, attributes := #[] }, { accessFlags := 25, nameIndex := 286, descriptorIndex := 25, attributes := #[] }, { accessFlags := 25, nameIndex := 288, descriptorIndex := 25, attributes := #[] }, { accessFlags := 25, nameIndex := 290, descriptorIndex := 25, attributes := #[] }, { accessFlags := 25, nameIndex := 292, descriptorIndex := 25, attributes := #[] }, { accessFlags := 26, nameIndex := 108, descriptorIndex := 109, attributes := #[] }, { accessFlags := 25, nameIndex := 294, descriptorIndex := 25, attributes := #[] }])
  fields := #[{ name := "U", type := (.object "jdk/internal/misc/Unsafe"), accessFlags := 24, slot := 0, constantValue := 0 }, { name := "BIG_ENDIAN", type := .boolean, accessFlags := 26, slot := 1, constantValue := 0 }, { name := "LOG2_ARRAY_BOOLEAN_INDEX_SCALE", type := .int, accessFlags := 25, slot := 2, constantValue := 0 }, { name := "LOG2_ARRAY_BYTE_INDEX_SCALE", type := .int, accessFlags := 25, slot := 3, constantValue := 0 }, { name := "LOG2_ARRAY_CHAR_INDEX_SCALE", type := .int, accessFlags := 25, slot := 4, constantValue := 0 }, { name := "LOG2_ARRAY_SHORT_INDEX_SCALE", type := .int, accessFlags := 25, slot := 5, constantValue := 0 }, { name := "LOG2_ARRAY_INT_INDEX_SCALE", type := .int, accessFlags := 25, slot := 6, constantValue := 0 }, { name := "LOG2_ARRAY_LONG_INDEX_SCALE", type := .int, accessFlags := 25, slot := 7, constantValue := 0 }, { name := "LOG2_ARRAY_FLOAT_INDEX_SCALE", type := .int, accessFlags := 25, slot := 8, constantValue := 0 }, { name := "LOG2_ARRAY_DOUBLE_INDEX_SCALE", type := .int, accessFlags := 25, slot := 9, constantValue := 0 }, { name := "LOG2_BYTE_BIT_SIZE", type := .int, accessFlags := 26, slot := 10, constantValue := 0 }, { name := "T_BOOLEAN", type := .int, accessFlags := 25, slot := 11, constantValue := 0 }, { name := "T_CHAR", type := .int, accessFlags := 25, slot := 12, constantValue := 0 }, { name := "T_FLOAT", type := .int, accessFlags := 25, slot := 13, constantValue := 0 }, { name := "T_DOUBLE", type := .int, accessFlags := 25, slot := 14, constantValue := 0 }, { name := "T_BYTE", type := .int, accessFlags := 25, slot := 15, constantValue := 0 }, { name := "T_SHORT", type := .int, accessFlags := 25, slot := 16, constantValue := 0 }, { name := "T_INT", type := .int, accessFlags := 25, slot := 17, constantValue := 0 }, { name := "T_LONG", type := .int, accessFlags := 25, slot := 18, constantValue := 0 }, { name := "JLA", type := (.object "jdk/internal/access/JavaLangAccess"), accessFlags := 26, slot := 19, constantValue := 0 }, { name := "SOFT_MAX_ARRAY_LENGTH", type := .int, accessFlags := 25, slot := 20, constantValue := 0 }]
  methods := #[k14m0]
  instanceTypes := #[]
  staticTypes := #[(.object "jdk/internal/misc/Unsafe"), .boolean, .int, .int, .int, .int, .int, .int, .int, .int, .int, .int, .int, .int, .int, .int, .int, .int, .int, (.object "jdk/internal/access/JavaLangAccess"), .int]
  resolved := Array.replicate 378 none
  statics := none }

def pool15 : Array CpInfo := pool [(1, u "java/lang/Cloneable"), (0, .class_ 1), (0, u "java/lang/Object"), (0, .class_ 3)] 3

/-- java/lang/Cloneable -/
def k15 : Class := { plain "java/lang/Cloneable" (some 0) with
  accessFlags := 1537
  interfaces := #[]
  cf := some (fileOf pool15 2 #[] #[] 1537 4 #[] #[])
  fields := #[]
  methods := #[]
  instanceTypes := #[]
  staticTypes := #[]
  resolved := Array.replicate 8 none
  statics := none }

/-- the primitive byte -/
def k16 : Class := { plain "byte" none with kind := .primitive 'B', accessFlags := 0x411 }
/-- [B -/
def k17 : Class := { plain "[B" (some 0) with kind := .array 16 .byte, interfaces := #[15, 2], accessFlags := 1041 }

/-- the primitive char -/
def k18 : Class := { plain "char" none with kind := .primitive 'C', accessFlags := 0x411 }
/-- [C -/
def k19 : Class := { plain "[C" (some 0) with kind := .array 18 .char, interfaces := #[15, 2], accessFlags := 1041 }

/-- the primitive int -/
def k20 : Class := { plain "int" none with kind := .primitive 'I', accessFlags := 0x411 }
/-- [I -/
def k21 : Class := { plain "[I" (some 0) with kind := .array 20 .int, interfaces := #[15, 2], accessFlags := 1041 }

def heap : Heap := #[{ cls := 7, slots := #[.long 0, .int 1, .null, .int 0, .null, .int 0, .int 0], vm := .statics 7 },
  { cls := 13, slots := #[.null, .null, .null], vm := .statics 13 }]
def classes : Array Class := #[k0, k1, k2, k3, k4, k5, k6, k7, k8, k9, k10, k11, k12, k13, k14, k15, k16, k17, k18, k19, k20, k21]
def interned : List (Array UInt16 × Addr) := []
def slotsUsed : Nat := 10
def theMethod : MethodId := ⟨1, 2⟩
def args0 : Array Value := #[.int 5, .int 6]
def aboutOver (below : List Frame) : State where
  vm := { classes := classes, interned := interned.toArray }
  heap := heap
  slotsUsed := slotsUsed
  threads := #[{ frames := .invoking theMethod args0 :: below }]
def below0 : List Frame := [.native { method := ⟨0, 0⟩, args := #[] }]
def about1 : State := aboutOver below0
def p0 : Program := .bare "" "" ""
def e0 : Env := launch0.env 0 0 0
theorem w_frames : about1.frames = Frame.invoking theMethod args0 :: below0 := rfl
set_option maxRecDepth 65536 in
theorem w_args : argsFit about1.vm theMethod args0 = true := by decide +kernel
set_option maxRecDepth 65536 in
theorem w_heap : heapFits about1 = true := by decide +kernel
set_option maxRecDepth 65536 in
theorem w_runnable : about1.curStatus? = some .runnable := by decide +kernel
set_option maxRecDepth 65536 in
theorem w_alone : about1.alone = true := by decide +kernel
set_option maxRecDepth 65536 in
theorem w_named : about1.methodNamed? x = some theMethod := by decide +kernel
set_option maxRecDepth 65536 in
theorem w_hears : about1.hears theMethod below0 = true := by decide +kernel
set_option maxRecDepth 65536 in
theorem w_ripe : about1.ripe theMethod args0 below0 = true := by decide +kernel
theorem w_running : about1.status = .running := rfl
set_option maxRecDepth 65536 in
theorem w_room : about1.hasRoom e0.platform room_1 = true :=
  launch0.hasRoom_least _ room_1 (by decide +kernel) (by decide +kernel) (by decide +kernel) (by decide +kernel) (by decide +kernel) (by decide +kernel)
theorem allAtoms_all (ts : List Jvm.Cond) (a : Array Jvm.Value) (st : Jvm.State) : (allAtoms ts).before a st = ts.all (fun c => c.before a st) := by
  induction ts with
  | nil => rfl
  | cons c t ih =>
    show (Jvm.Cond.and c (allAtoms t)).before a st = _
    rw [Jvm.Cond.before_and, ih, List.all_cons]
def words1 : List Jvm.Cond := Jvm.Cond.code x code maxLocals ret :: tables_1
/-- a 'code' word, met by the world's own term for the bytes: nothing is compared byte by byte -/
theorem code_word {y : MethodName} {bytes : ByteArray} {mx : Nat} {rt : Option FieldType} {a : Array Value} {s : State} {m : MethodId} {meth : Method} {c : Code} (h1 : s.methodNamed? y = some m) (h2 : s.vm.method? m = some meth) (h3 : meth.code = some c) (h4 : c.code = bytes)
    (h5 : (c.maxLocals == mx && c.exceptionTable.isEmpty && decide (c.maxStack ≤ mostOperands) && decide (meth.sig.returnType = rt) && !meth.locks && decide (parseMethodDescriptor y.desc = some meth.sig)) = true) : (Jvm.Cond.code y bytes mx rt).before a s = true := by
  simp only [Bool.and_eq_true, beq_iff_eq, Bool.not_eq_true', decide_eq_true_eq] at h5
  obtain ⟨⟨⟨⟨⟨g1, g2⟩, g3⟩, g4⟩, g5⟩, g6⟩ := h5
  simp [Cond.before, Cond.holds, Cond.value, h1, h2, h3, h4, g1, g2, g3, g4, g5, g6]
def isCode : Jvm.Cond → Bool
  | .code _ _ _ _ => true
  | _ => false
theorem all_split {L : List Jvm.Cond} {P : Jvm.Cond → Bool} (h1 : L.all (fun c => isCode c || P c) = true) (h2 : ∀ c ∈ L.filter isCode, P c = true) : L.all P = true := by
  refine List.all_eq_true.mpr fun c hc => ?_
  have h := List.all_eq_true.mp h1 c hc
  rcases Bool.eq_false_or_eq_true (isCode c) with hi | hi
  · exact h2 c (List.mem_filter.mpr ⟨hc, hi⟩)
  · simpa [hi] using h
set_option maxRecDepth 65536 in
theorem w_c0 : (Jvm.Cond.code x code maxLocals ret).before args0 about1 = true := code_word (m := ⟨1, 2⟩) (meth := k1m2) (c := k1c2) (by decide +kernel) rfl rfl rfl (by decide +kernel)
set_option maxRecDepth 65536 in
theorem w_c1 : (Jvm.Cond.code ({ cls := "com/example/fieldwright/fieldwright/FieldStructureAllowsPinLaw", name := "subs", desc := "(ICCC)Ljava/lang/String;" } : Jvm.MethodName) method_2_code (4 : Nat) (Option.some (Jvm.ClassFile.FieldType.object "java/lang/String"))).before args0 about1 = true := code_word (m := ⟨1, 1⟩) (meth := k1m1) (c := k1c1) (by decide +kernel) rfl rfl rfl (by decide +kernel)
set_option maxRecDepth 65536 in
theorem w_c2 : (Jvm.Cond.code ({ cls := "java/lang/String", name := "<init>", desc := "([C)V" } : Jvm.MethodName) jdk_42_method_3_code (2 : Nat) (Option.none : Option Jvm.ClassFile.FieldType)).before args0 about1 = true := code_word (m := ⟨7, 1⟩) (meth := k7m1) (c := k7c1) (by decide +kernel) rfl rfl rfl (by decide +kernel)
set_option maxRecDepth 65536 in
theorem w_c3 : (Jvm.Cond.code ({ cls := "java/lang/String", name := "<init>", desc := "([CIILjava/lang/Void;)V" } : Jvm.MethodName) jdk_42_method_149_code (6 : Nat) (Option.none : Option Jvm.ClassFile.FieldType)).before args0 about1 = true := code_word (m := ⟨7, 6⟩) (meth := k7m6) (c := k7c6) (by decide +kernel) rfl rfl rfl (by decide +kernel)
set_option maxRecDepth 65536 in
theorem w_c4 : (Jvm.Cond.code ({ cls := "java/lang/Object", name := "<init>", desc := "()V" } : Jvm.MethodName) object_method_1_code (1 : Nat) (Option.none : Option Jvm.ClassFile.FieldType)).before args0 about1 = true := code_word (m := ⟨0, 0⟩) (meth := k0m0) (c := k0c0) (by decide +kernel) rfl rfl rfl (by decide +kernel)
set_option maxRecDepth 65536 in
theorem w_c5 : (Jvm.Cond.code ({ cls := "java/lang/StringUTF16", name := "compress", desc := "([CII)[B" } : Jvm.MethodName) jdk_52_method_16_code (6 : Nat) (Option.some (Jvm.ClassFile.FieldType.array Jvm.ClassFile.FieldType.byte))).before args0 about1 = true := code_word (m := ⟨8, 2⟩) (meth := k8m2) (c := k8c2) (by decide +kernel) rfl rfl rfl (by decide +kernel)
set_option maxRecDepth 65536 in
theorem w_c6 : (Jvm.Cond.code ({ cls := "java/lang/StringUTF16", name := "compress", desc := "([CI[BII)I" } : Jvm.MethodName) jdk_52_method_21_code (7 : Nat) (Option.some Jvm.ClassFile.FieldType.int)).before args0 about1 = true := code_word (m := ⟨8, 3⟩) (meth := k8m3) (c := k8c3) (by decide +kernel) rfl rfl rfl (by decide +kernel)
set_option maxRecDepth 65536 in
theorem w_c7 : (Jvm.Cond.code ({ cls := "java/lang/StringUTF16", name := "coderFromArrayLen", desc := "([BI)B" } : Jvm.MethodName) jdk_52_method_15_code (2 : Nat) (Option.some Jvm.ClassFile.FieldType.byte)).before args0 about1 = true := code_word (m := ⟨8, 1⟩) (meth := k8m1) (c := k8c1) (by decide +kernel) rfl rfl rfl (by decide +kernel)
set_option maxRecDepth 65536 in
theorem w_c8 : (Jvm.Cond.code ({ cls := "java/lang/String", name := "valueOf", desc := "(C)Ljava/lang/String;" } : Jvm.MethodName) jdk_42_method_139_code (1 : Nat) (Option.some (Jvm.ClassFile.FieldType.object "java/lang/String"))).before args0 about1 = true := code_word (m := ⟨7, 5⟩) (meth := k7m5) (c := k7c5) (by decide +kernel) rfl rfl rfl (by decide +kernel)
set_option maxRecDepth 65536 in
theorem w_c9 : (Jvm.Cond.code ({ cls := "java/lang/StringLatin1", name := "canEncode", desc := "(C)Z" } : Jvm.MethodName) jdk_43_method_3_code (1 : Nat) (Option.some Jvm.ClassFile.FieldType.boolean)).before args0 about1 = true := code_word (m := ⟨9, 1⟩) (meth := k9m1) (c := k9c1) (by decide +kernel) rfl rfl rfl (by decide +kernel)
set_option maxRecDepth 65536 in
theorem w_c10 : (Jvm.Cond.code ({ cls := "java/lang/StringLatin1", name := "toBytes", desc := "(C)[B" } : Jvm.MethodName) jdk_43_method_46_code (1 : Nat) (Option.some (Jvm.ClassFile.FieldType.array Jvm.ClassFile.FieldType.byte))).before args0 about1 = true := code_word (m := ⟨9, 5⟩) (meth := k9m5) (c := k9c5) (by decide +kernel) rfl rfl rfl (by decide +kernel)
set_option maxRecDepth 65536 in
theorem w_c11 : (Jvm.Cond.code ({ cls := "java/lang/String", name := "<init>", desc := "([BB)V" } : Jvm.MethodName) jdk_42_method_151_code (3 : Nat) (Option.none : Option Jvm.ClassFile.FieldType)).before args0 about1 = true := code_word (m := ⟨7, 7⟩) (meth := k7m7) (c := k7c7) (by decide +kernel) rfl rfl rfl (by decide +kernel)
set_option maxRecDepth 65536 in
theorem w_c12 : (Jvm.Cond.code ({ cls := "com/example/fieldwright/fieldwright/FieldStructure", name := "<init>", desc := "(Ljava/lang/String;Ljava/lang/String;Ljava/lang/String;Ljava/lang/String;Ljava/lang/String;Ljava/lang/String;)V" } : Jvm.MethodName) prog_18_method_1_code (7 : Nat) (Option.none : Option Jvm.ClassFile.FieldType)).before args0 about1 = true := code_word (m := ⟨11, 0⟩) (meth := k11m0) (c := k11c0) (by decide +kernel) rfl rfl rfl (by decide +kernel)
set_option maxRecDepth 65536 in
theorem w_c13 : (Jvm.Cond.code ({ cls := "java/lang/Record", name := "<init>", desc := "()V" } : Jvm.MethodName) jdk_30_method_1_code (1 : Nat) (Option.none : Option Jvm.ClassFile.FieldType)).before args0 about1 = true := code_word (m := ⟨10, 0⟩) (meth := k10m0) (c := k10c0) (by decide +kernel) rfl rfl rfl (by decide +kernel)
set_option maxRecDepth 65536 in
theorem w_c14 : (Jvm.Cond.code ({ cls := "com/example/fieldwright/fieldwright/FieldStructure", name := "allows", desc := "(C)Z" } : Jvm.MethodName) prog_18_method_6_code (2 : Nat) (Option.some Jvm.ClassFile.FieldType.boolean)).before args0 about1 = true := code_word (m := ⟨11, 1⟩) (meth := k11m1) (c := k11c1) (by decide +kernel) rfl rfl rfl (by decide +kernel)
set_option maxRecDepth 65536 in
theorem w_c15 : (Jvm.Cond.code ({ cls := "java/lang/String", name := "indexOf", desc := "(I)I" } : Jvm.MethodName) jdk_42_method_79_code (2 : Nat) (Option.some Jvm.ClassFile.FieldType.int)).before args0 about1 = true := code_word (m := ⟨7, 3⟩) (meth := k7m3) (c := k7c3) (by decide +kernel) rfl rfl rfl (by decide +kernel)
set_option maxRecDepth 65536 in
theorem w_c16 : (Jvm.Cond.code ({ cls := "java/lang/String", name := "indexOf", desc := "(II)I" } : Jvm.MethodName) jdk_42_method_80_code (3 : Nat) (Option.some Jvm.ClassFile.FieldType.int)).before args0 about1 = true := code_word (m := ⟨7, 4⟩) (meth := k7m4) (c := k7c4) (by decide +kernel) rfl rfl rfl (by decide +kernel)
set_option maxRecDepth 65536 in
theorem w_c17 : (Jvm.Cond.code ({ cls := "java/lang/String", name := "isLatin1", desc := "()Z" } : Jvm.MethodName) jdk_42_method_154_code (1 : Nat) (Option.some Jvm.ClassFile.FieldType.boolean)).before args0 about1 = true := code_word (m := ⟨7, 9⟩) (meth := k7m9) (c := k7c9) (by decide +kernel) rfl rfl rfl (by decide +kernel)
set_option maxRecDepth 65536 in
theorem w_c18 : (Jvm.Cond.code ({ cls := "java/lang/String", name := "length", desc := "()I" } : Jvm.MethodName) jdk_42_method_54_code (1 : Nat) (Option.some Jvm.ClassFile.FieldType.int)).before args0 about1 = true := code_word (m := ⟨7, 2⟩) (meth := k7m2) (c := k7c2) (by decide +kernel) rfl rfl rfl (by decide +kernel)
set_option maxRecDepth 65536 in
theorem w_c19 : (Jvm.Cond.code ({ cls := "java/lang/String", name := "coder", desc := "()B" } : Jvm.MethodName) jdk_42_method_152_code (1 : Nat) (Option.some Jvm.ClassFile.FieldType.byte)).before args0 about1 = true := code_word (m := ⟨7, 8⟩) (meth := k7m8) (c := k7c8) (by decide +kernel) rfl rfl rfl (by decide +kernel)
set_option maxRecDepth 65536 in
theorem w_c20 : (Jvm.Cond.code ({ cls := "java/lang/StringLatin1", name := "indexOf", desc := "([BIII)I" } : Jvm.MethodName) jdk_43_method_22_code (4 : Nat) (Option.some Jvm.ClassFile.FieldType.int)).before args0 about1 = true := code_word (m := ⟨9, 3⟩) (meth := k9m3) (c := k9c3) (by decide +kernel) rfl rfl rfl (by decide +kernel)
set_option maxRecDepth 65536 in
theorem w_c21 : (Jvm.Cond.code ({ cls := "java/lang/StringLatin1", name := "canEncode", desc := "(I)Z" } : Jvm.MethodName) jdk_43_method_4_code (1 : Nat) (Option.some Jvm.ClassFile.FieldType.boolean)).before args0 about1 = true := code_word (m := ⟨9, 2⟩) (meth := k9m2) (c := k9c2) (by decide +kernel) rfl rfl rfl (by decide +kernel)
set_option maxRecDepth 65536 in
theorem w_c22 : (Jvm.Cond.code ({ cls := "java/lang/Math", name := "max", desc := "(II)I" } : Jvm.MethodName) jdk_29_method_65_code (2 : Nat) (Option.some Jvm.ClassFile.FieldType.int)).before args0 about1 = true := code_word (m := ⟨12, 1⟩) (meth := k12m1) (c := k12c1) (by decide +kernel) rfl rfl rfl (by decide +kernel)
set_option maxRecDepth 65536 in
theorem w_c23 : (Jvm.Cond.code ({ cls := "java/lang/Math", name := "min", desc := "(II)I" } : Jvm.MethodName) jdk_29_method_69_code (2 : Nat) (Option.some Jvm.ClassFile.FieldType.int)).before args0 about1 = true := code_word (m := ⟨12, 2⟩) (meth := k12m2) (c := k12c2) (by decide +kernel) rfl rfl rfl (by decide +kernel)
set_option maxRecDepth 65536 in
theorem w_c24 : (Jvm.Cond.code ({ cls := "java/lang/StringLatin1", name := "indexOfChar", desc := "([BIII)I" } : Jvm.MethodName) jdk_43_method_23_code (6 : Nat) (Option.some Jvm.ClassFile.FieldType.int)).before args0 about1 = true := code_word (m := ⟨9, 4⟩) (meth := k9m4) (c := k9c4) (by decide +kernel) rfl rfl rfl (by decide +kernel)
def codes1 : List Jvm.Cond := [Jvm.Cond.code x code maxLocals ret, Jvm.Cond.code ({ cls := "com/example/fieldwright/fieldwright/FieldStructureAllowsPinLaw", name := "subs", desc := "(ICCC)Ljava/lang/String;" } : Jvm.MethodName) method_2_code (4 : Nat) (Option.some (Jvm.ClassFile.FieldType.object "java/lang/String")), Jvm.Cond.code ({ cls := "java/lang/String", name := "<init>", desc := "([C)V" } : Jvm.MethodName) jdk_42_method_3_code (2 : Nat) (Option.none : Option Jvm.ClassFile.FieldType), Jvm.Cond.code ({ cls := "java/lang/String", name := "<init>", desc := "([CIILjava/lang/Void;)V" } : Jvm.MethodName) jdk_42_method_149_code (6 : Nat) (Option.none : Option Jvm.ClassFile.FieldType), Jvm.Cond.code ({ cls := "java/lang/Object", name := "<init>", desc := "()V" } : Jvm.MethodName) object_method_1_code (1 : Nat) (Option.none : Option Jvm.ClassFile.FieldType), Jvm.Cond.code ({ cls := "java/lang/StringUTF16", name := "compress", desc := "([CII)[B" } : Jvm.MethodName) jdk_52_method_16_code (6 : Nat) (Option.some (Jvm.ClassFile.FieldType.array Jvm.ClassFile.FieldType.byte)), Jvm.Cond.code ({ cls := "java/lang/StringUTF16", name := "compress", desc := "([CI[BII)I" } : Jvm.MethodName) jdk_52_method_21_code (7 : Nat) (Option.some Jvm.ClassFile.FieldType.int), Jvm.Cond.code ({ cls := "java/lang/StringUTF16", name := "coderFromArrayLen", desc := "([BI)B" } : Jvm.MethodName) jdk_52_method_15_code (2 : Nat) (Option.some Jvm.ClassFile.FieldType.byte), Jvm.Cond.code ({ cls := "java/lang/String", name := "valueOf", desc := "(C)Ljava/lang/String;" } : Jvm.MethodName) jdk_42_method_139_code (1 : Nat) (Option.some (Jvm.ClassFile.FieldType.object "java/lang/String")), Jvm.Cond.code ({ cls := "java/lang/StringLatin1", name := "canEncode", desc := "(C)Z" } : Jvm.MethodName) jdk_43_method_3_code (1 : Nat) (Option.some Jvm.ClassFile.FieldType.boolean), Jvm.Cond.code ({ cls := "java/lang/StringLatin1", name := "toBytes", desc := "(C)[B" } : Jvm.MethodName) jdk_43_method_46_code (1 : Nat) (Option.some (Jvm.ClassFile.FieldType.array Jvm.ClassFile.FieldType.byte)), Jvm.Cond.code ({ cls := "java/lang/String", name := "<init>", desc := "([BB)V" } : Jvm.MethodName) jdk_42_method_151_code (3 : Nat) (Option.none : Option Jvm.ClassFile.FieldType), Jvm.Cond.code ({ cls := "com/example/fieldwright/fieldwright/FieldStructure", name := "<init>", desc := "(Ljava/lang/String;Ljava/lang/String;Ljava/lang/String;Ljava/lang/String;Ljava/lang/String;Ljava/lang/String;)V" } : Jvm.MethodName) prog_18_method_1_code (7 : Nat) (Option.none : Option Jvm.ClassFile.FieldType), Jvm.Cond.code ({ cls := "java/lang/Record", name := "<init>", desc := "()V" } : Jvm.MethodName) jdk_30_method_1_code (1 : Nat) (Option.none : Option Jvm.ClassFile.FieldType), Jvm.Cond.code ({ cls := "com/example/fieldwright/fieldwright/FieldStructure", name := "allows", desc := "(C)Z" } : Jvm.MethodName) prog_18_method_6_code (2 : Nat) (Option.some Jvm.ClassFile.FieldType.boolean), Jvm.Cond.code ({ cls := "java/lang/String", name := "indexOf", desc := "(I)I" } : Jvm.MethodName) jdk_42_method_79_code (2 : Nat) (Option.some Jvm.ClassFile.FieldType.int), Jvm.Cond.code ({ cls := "java/lang/String", name := "indexOf", desc := "(II)I" } : Jvm.MethodName) jdk_42_method_80_code (3 : Nat) (Option.some Jvm.ClassFile.FieldType.int), Jvm.Cond.code ({ cls := "java/lang/String", name := "isLatin1", desc := "()Z" } : Jvm.MethodName) jdk_42_method_154_code (1 : Nat) (Option.some Jvm.ClassFile.FieldType.boolean), Jvm.Cond.code ({ cls := "java/lang/String", name := "length", desc := "()I" } : Jvm.MethodName) jdk_42_method_54_code (1 : Nat) (Option.some Jvm.ClassFile.FieldType.int), Jvm.Cond.code ({ cls := "java/lang/String", name := "coder", desc := "()B" } : Jvm.MethodName) jdk_42_method_152_code (1 : Nat) (Option.some Jvm.ClassFile.FieldType.byte), Jvm.Cond.code ({ cls := "java/lang/StringLatin1", name := "indexOf", desc := "([BIII)I" } : Jvm.MethodName) jdk_43_method_22_code (4 : Nat) (Option.some Jvm.ClassFile.FieldType.int), Jvm.Cond.code ({ cls := "java/lang/StringLatin1", name := "canEncode", desc := "(I)Z" } : Jvm.MethodName) jdk_43_method_4_code (1 : Nat) (Option.some Jvm.ClassFile.FieldType.boolean), Jvm.Cond.code ({ cls := "java/lang/Math", name := "max", desc := "(II)I" } : Jvm.MethodName) jdk_29_method_65_code (2 : Nat) (Option.some Jvm.ClassFile.FieldType.int), Jvm.Cond.code ({ cls := "java/lang/Math", name := "min", desc := "(II)I" } : Jvm.MethodName) jdk_29_method_69_code (2 : Nat) (Option.some Jvm.ClassFile.FieldType.int), Jvm.Cond.code ({ cls := "java/lang/StringLatin1", name := "indexOfChar", desc := "([BIII)I" } : Jvm.MethodName) jdk_43_method_23_code (6 : Nat) (Option.some Jvm.ClassFile.FieldType.int)]
set_option maxRecDepth 65536 in
theorem codes_eq : words1.filter isCode = codes1 := rfl
theorem w_codes : ∀ c ∈ words1.filter isCode, c.before args0 about1 = true := by
  rw [codes_eq]
  intro c hc
  simp only [codes1, List.mem_cons, List.not_mem_nil, or_false] at hc
  rcases hc with rfl | rfl | rfl | rfl | rfl | rfl | rfl | rfl | rfl | rfl | rfl | rfl | rfl | rfl | rfl | rfl | rfl | rfl | rfl | rfl | rfl | rfl | rfl | rfl | rfl
  · exact w_c0
  · exact w_c1
  · exact w_c2
  · exact w_c3
  · exact w_c4
  · exact w_c5
  · exact w_c6
  · exact w_c7
  · exact w_c8
  · exact w_c9
  · exact w_c10
  · exact w_c11
  · exact w_c12
  · exact w_c13
  · exact w_c14
  · exact w_c15
  · exact w_c16
  · exact w_c17
  · exact w_c18
  · exact w_c19
  · exact w_c20
  · exact w_c21
  · exact w_c22
  · exact w_c23
  · exact w_c24
set_option maxRecDepth 65536 in
theorem w_t1 : (words1.take 24).all (fun c => isCode c || c.before args0 about1) = true := by decide +kernel
set_option maxRecDepth 65536 in
theorem w_t2 : ((words1.drop 24).take 24).all (fun c => isCode c || c.before args0 about1) = true := by decide +kernel
set_option maxRecDepth 65536 in
theorem w_t3 : (((words1.drop 24).drop 24).take 24).all (fun c => isCode c || c.before args0 about1) = true := by decide +kernel
set_option maxRecDepth 65536 in
theorem w_t4 : ((((words1.drop 24).drop 24).drop 24).take 24).all (fun c => isCode c || c.before args0 about1) = true := by decide +kernel
set_option maxRecDepth 65536 in
theorem w_t5 : (((((words1.drop 24).drop 24).drop 24).drop 24).take 24).all (fun c => isCode c || c.before args0 about1) = true := by decide +kernel
set_option maxRecDepth 65536 in
theorem w_t6 : (((((words1.drop 24).drop 24).drop 24).drop 24).drop 24).all (fun c => isCode c || c.before args0 about1) = true := by decide +kernel
theorem w_tables : (allAtoms (Jvm.Cond.code x code maxLocals ret :: tables_1)).before args0 about1 = true := by
  rw [allAtoms_all]
  show words1.all (fun c => c.before args0 about1) = true
  refine all_split ?_ w_codes
  rw [← List.take_append_drop 24 words1, List.all_append, w_t1, ← List.take_append_drop 24 (words1.drop 24), List.all_append, w_t2, ← List.take_append_drop 24 ((words1.drop 24).drop 24), List.all_append, w_t3, ← List.take_append_drop 24 (((words1.drop 24).drop 24).drop 24), List.all_append, w_t4, ← List.take_append_drop 24 ((((words1.drop 24).drop 24).drop 24).drop 24), List.all_append, w_t5, w_t6]
  rfl
set_option maxRecDepth 65536 in
theorem w_rest : rest_1_c.before args0 about1 = true := by decide +kernel
set_option maxRecDepth 65536 in
theorem w_case : (Jvm.Cond.and given_1 narrow_1).before args0 about1 = true := by decide +kernel
set_option maxRecDepth 65536 in
theorem w_consts : constsHeld consts_1 about1 := Jvm.Lit.constsHeldB_iff.mp (by decide +kernel)
theorem w_applies : (headSpec (Jvm.Cond.code x code maxLocals ret :: tables_1) room_1).applies x e0.platform about1 = true :=
  (Spec.applies_iff w_frames).mpr ⟨w_running, w_runnable, w_alone, w_named, w_hears, w_ripe, w_room, w_tables⟩
theorem atStart : AtStart classFile x code maxLocals ret World_1 tables_1 room_1 Calls_1 rest_1 Pre_1 launch0 p0 e0 about1 theMethod args0 below0 :=
  ⟨lists_1, trivial, launch0.admits_env _ _ _, launch0.least_env, fairChoices_fair.cas, fairChoices_fair.clock, w_frames, w_args, w_heap, w_applies, ⟨w_consts, trivial⟩, w_rest, w_case⟩
end start1
theorem witness_1 : WitnessClaimed_1 := ⟨start1.p0, start1.e0, start1.about1, start1.theMethod, start1.args0, start1.below0, start1.atStart⟩
end Jvm.Pilot.@@N@@
