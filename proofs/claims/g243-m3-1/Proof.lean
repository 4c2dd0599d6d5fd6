import JvmDerived
import JvmDerived.Pilot.@@N@@Statement
import JvmDerived.Pilot.@@N@@Code
set_option linter.unusedVariables false
set_option linter.unusedSimpArgs false
namespace Jvm.RoadKit
open Sem ClassFile Op Lib Jvm.Stand Jvm.Free Jvm.LawKit
section New
variable {p : Program} {l : Launch} {e : Env} {R : Room} {s : State} {m : MethodId} {args : Array Value} {below : List Frame} {meth : Method} {c : Code} {T : State} {locs : List Loc} {cells slots : Nat}
theorem retI (X : Stand p l e R s m args below meth c T locs cells slots) (hx : p.tables.exec = Jvm.exec) {pc : Nat} {Ls : Array Slot} {z : Int32} {rest : List Value} (hret : meth.sig.returnType = some .int) (hd : decode c.code pc = .ok (.ireturn, 1)) {fs : List Frame}
    (hl : ∀ (f : JFrame) (acts : List Action), f.method = m → f.locked = none → f.entered = [] → (doReturn e (T.setTop f) acts (some (.int z))).1 = T.setFrames fs) : Steps p.tables e below (T.setTop (mkF m pc Ls (.int z :: rest))) (T.setFrames fs) := by
  have hm' : T.vm.method? m = some meth := X.method'
  have hn : narrow .int (.int z) = .int z := rfl
  show Steps p.tables e below (T.setTop { method := m, pc := pc, locals := Ls, stack := _ :: rest, locked := none }) _
  jvm_step X.here [X.here.top, hx, hd, hm', hret, hn]
  first | (intro acts; rw [hl _ acts rfl rfl rfl]) | rw [hl _ _ rfl rfl rfl]
  exact Steps.refl _
end New
end Jvm.RoadKit
/- laws to paste: Road.backV, Road.eqW, Road.codOf (cut by pick.py; bodies as the Statement names them) -/
namespace Jvm.Pilot.@@N@@
namespace StrChars
open Jvm Sem ClassFile Op Lib Jvm.Stand Jvm.Free.XT Jvm.Free.ALB Jvm.Free.JM Jvm.Free
open Jvm.Lib.Cold (StaticIs)
/-- a char array whose places are chars -/
def Ch (a : Addr) (A : Cell) (U : State) : Prop := Arr .char a A U ∧ Typed .char A
theorem Ch.mv {a : Addr} {A : Cell} {U U' : State} (h : Ch a A U) (hal : U.vm.Alike U'.vm) (hh : U'.heap = U.heap) : Ch a A U' := ⟨h.1.mv hal hh, h.2⟩
theorem Ch.keep {a : Addr} {A : Cell} {U U' : State} (h : Ch a A U) (hal : U.vm.Alike U'.vm) (hk : U'.heap[a]? = some A) : Ch a A U' := ⟨h.1.keep hal hk, h.2⟩
/-- what place i of a char[]'s cell holds -/
def cv (A : Cell) (i : Nat) : Int32 := match A.slots[i]? with | some (.int x) => x | _ => 0
theorem Ch.get {a : Addr} {A : Cell} {U : State} (h : Ch a A U) {i : Nat} (hi : i < A.slots.size) : A.slots[i]? = some (.int (cv A i)) := by
  have e := Array.getElem?_eq_getElem hi
  have f := h.2 i _ e
  unfold cv; rw [e]
  generalize A.slots[i] = v at f
  cases v <;> simp [fits] at f ⊢
/-- the byte that i2b leaves of a char -/
def lo8 (x : Int32) : Int32 := x.toInt8.toInt32
theorem fits_lo8 (y : Int32) : fits .byte (.int (lo8 y)) = true := by
  have h1 := y.toInt8.le_toInt
  have h2 := y.toInt8.toInt_lt
  simp only [lo8, fits, Bool.and_eq_true, decide_eq_true_eq, Int32.le_iff_toInt_le, Int8.toInt_toInt32, show (-128 : Int32).toInt = -128 from by decide, show (127 : Int32).toInt = 127 from by decide]
  omega
/-- A' is A but that each place j of lo .. hi - 1 holds f j -/
def Laid (A A' : Cell) (lo hi : Nat) (f : Nat → Value) : Prop := A'.cls = A.cls ∧ A'.vm = A.vm ∧ A'.slots.size = A.slots.size ∧ ∀ i, A'.slots[i]? = if lo ≤ i ∧ i < hi then some (f i) else A.slots[i]?
theorem Laid.zero (A : Cell) (lo : Nat) (f : Nat → Value) : Laid A A lo (lo + 0) f := ⟨rfl, rfl, rfl, fun i => by rw [if_neg (by omega)]⟩
theorem Laid.step {A Ak : Cell} {lo k : Nat} {f : Nat → Value} {v : Value} (h : Laid A Ak lo k f) (hlo : lo ≤ k) (hk : k < Ak.slots.size) (hv : v = f k) : Laid A (Ak.setSlot k v) lo (k + 1) f := by
  refine ⟨h.1, h.2.1, by simpa [Cell.setSlot] using h.2.2.1, fun i => ?_⟩
  by_cases e : k = i
  · subst e; rw [Cell.slots_setSlot_self v hk, if_pos (by omega), hv]
  · rw [Cell.slots_setSlot_ne v e, h.2.2.2 i]
    by_cases q : lo ≤ i ∧ i < k
    · rw [if_pos q, if_pos (by omega)]
    · rw [if_neg q, if_neg (by omega)]
def U16 : String := "java/lang/StringUTF16"
namespace Cmp5
def yN : MethodName := ⟨"java/lang/StringUTF16", "compress", "([CI[BII)I"⟩
abbrev yB : ByteArray := jdk_52_method_21_code
theorem d0 : decode yB 0 = .ok (.iconst 0, 1) := by decide +kernel
theorem d1 : decode yB 1 = .ok (.istore 5, 2) := by decide +kernel
theorem d3 : decode yB 3 = .ok (.iload 5, 2) := by decide +kernel
theorem d5 : decode yB 5 = .ok (.iload 4, 2) := by decide +kernel
theorem d7 : decode yB 7 = .ok (.if_icmp (.ge) 37, 3) := by decide +kernel
theorem d10 : decode yB 10 = .ok (.aload_n 0, 1) := by decide +kernel
theorem d11 : decode yB 11 = .ok (.iload_n 1, 1) := by decide +kernel
theorem d12 : decode yB 12 = .ok (.caload, 1) := by decide +kernel
theorem d13 : decode yB 13 = .ok (.istore 6, 2) := by decide +kernel
theorem d15 : decode yB 15 = .ok (.iload 6, 2) := by decide +kernel
theorem d17 : decode yB 17 = .ok (.sipush 255, 3) := by decide +kernel
theorem d20 : decode yB 20 = .ok (.if_icmp (.le) 6, 3) := by decide +kernel
theorem d26 : decode yB 26 = .ok (.aload_n 2, 1) := by decide +kernel
theorem d27 : decode yB 27 = .ok (.iload_n 3, 1) := by decide +kernel
theorem d28 : decode yB 28 = .ok (.iload 6, 2) := by decide +kernel
theorem d30 : decode yB 30 = .ok (.i2b, 1) := by decide +kernel
theorem d31 : decode yB 31 = .ok (.bastore, 1) := by decide +kernel
theorem d32 : decode yB 32 = .ok (.iinc 1 1, 3) := by decide +kernel
theorem d35 : decode yB 35 = .ok (.iinc 3 1, 3) := by decide +kernel
theorem d38 : decode yB 38 = .ok (.iinc 5 1, 3) := by decide +kernel
theorem d41 : decode yB 41 = .ok (.goto (-38), 3) := by decide +kernel
theorem d44 : decode yB 44 = .ok (.iload 4, 2) := by decide +kernel
theorem d46 : decode yB 46 = .ok (.ireturn, 1) := by decide +kernel
def site : List Cond := []
def tab : Cond := tabOf yN yB 7 (some .int) site
def P (b : Addr) (A : Cell) (d : Addr) (B : Cell) (o q len : Nat) (args : Array Value) (s : State) : Prop := args = #[.ref b, .int (Int32.ofNat o), .ref d, .int (Int32.ofNat q), .int (Int32.ofNat len)] ∧ Ch b A s ∧ Arr .byte d B s ∧ b ≠ d ∧ o + len ≤ A.slots.size ∧ q + len ≤ B.slots.size ∧ ∀ i, i < len → ¬ 255 < cv A (o + i)
def E (b : Addr) (A : Cell) (d : Addr) (B : Cell) (o q len : Nat) (r : Option Value) (s u : State) : Prop := r = some (.int (Int32.ofNat len)) ∧ ∃ B', Put d B' s u ∧ Laid B B' q (q + len) (fun j => Value.int (lo8 (cv A (o + (j - q)))))
/-- no char of the range above 255: len; the places written hold each char's low byte -/
theorem law (l : Launch) (b : Addr) (A : Cell) (d : Addr) (B : Cell) (o q len : Nat) : Law l yN 5 5 0 0 yB 7 (some .int) site (P b A d B o q len) (E b A d B o q len) (copyLocs d q len) 0 0 := by
  refine Law.of_walk (plainFor_of_name (by decide +kernel)) (by decide +kernel) (by decide +kernel) (by decide) (fun _ _ h => by rw [h.1]; rfl) (fun _ U U' hal hh h => ⟨h.1, h.2.1.mv hal hh, h.2.2.1.mv hal hh, h.2.2.2⟩) (fun r U U' V V' h1 hal h2 h => ⟨h.1, h.2.elim fun B' q => ⟨B', q.1.mv h1 h2, q.2⟩⟩) ?_
  intro p e s m args below meth c s₁ X0 hexec hbytes hml hret hlk hnm hown hh0 W hP
  obtain ⟨rfl, hA, hB, hne, l1, l2, hp⟩ := hP
  have c1 : Steps p.tables e below (s₁.setTop (entryFrame m #[.ref b, .int (Int32.ofNat o), .ref d, .int (Int32.ofNat q), .int (Int32.ofNat len)] 7)) (s₁.setTop (mkF m 0 #[.val (.ref b), .val (.int (Int32.ofNat o)), .val (.ref d), .val (.int (Int32.ofNat q)), .val (.int (Int32.ofNat len)), .unset, .unset] [])) := entry rfl
  have hA0 := hA.1.mv X0.warmed.alike hh0
  have hB0 := hB.mv X0.warmed.alike hh0
  have a31 := hA.1.2.2.2
  have c2 : Steps p.tables e below (s₁.setTop (entryFrame m #[.ref b, .int (Int32.ofNat o), .ref d, .int (Int32.ofNat q), .int (Int32.ofNat len)] 7)) (s₁.setTop (mkF m 3 #[.val (.ref b), .val (.int (Int32.ofNat o)), .val (.ref d), .val (.int (Int32.ofNat q)), .val (.int (Int32.ofNat len)), .val (.int 0), .unset] [])) := c1.trans (by
    refine iconstV X0.here hexec rfl 0 (hb hbytes d0) (by decide) ?_
    refine XS.istore X0.here hexec rfl (hb hbytes d1) rfl rfl ?_
    exact Steps.refl _)
  have loop : ∀ (r i : Nat), i + r = len → ∀ (z : Slot), (z = .unset ∨ ∃ w, z = .val w ∧ w.category = 1) → ∀ (Tl : State) (Bk : Cell), Stand p l e { frames := 0, locals := 0, cells := 0, slots := 0 } s m #[.ref b, .int (Int32.ofNat o), .ref d, .int (Int32.ofNat q), .int (Int32.ofNat len)] below meth c Tl ([] ++ copyLocs d q i) 0 0 → Put d Bk s₁ Tl → Laid B Bk q (q + i) (fun j => Value.int (lo8 (cv A (o + (j - q))))) →
      Steps p.tables e below (s₁.setTop (entryFrame m #[.ref b, .int (Int32.ofNat o), .ref d, .int (Int32.ofNat q), .int (Int32.ofNat len)] 7)) (Tl.setTop (mkF m 3 #[.val (.ref b), .val (.int (Int32.ofNat (o + i))), .val (.ref d), .val (.int (Int32.ofNat (q + i))), .val (.int (Int32.ofNat len)), .val (.int (Int32.ofNat i)), z] [])) → ∃ (T' : State) (B' : Cell) (z' : Slot), Stand p l e { frames := 0, locals := 0, cells := 0, slots := 0 } s m #[.ref b, .int (Int32.ofNat o), .ref d, .int (Int32.ofNat q), .int (Int32.ofNat len)] below meth c T' ([] ++ copyLocs d q len) 0 0 ∧ Put d B' s₁ T' ∧ Laid B B' q (q + len) (fun j => Value.int (lo8 (cv A (o + (j - q))))) ∧
      Steps p.tables e below (s₁.setTop (entryFrame m #[.ref b, .int (Int32.ofNat o), .ref d, .int (Int32.ofNat q), .int (Int32.ofNat len)] 7)) (T'.setTop (mkF m 3 #[.val (.ref b), .val (.int (Int32.ofNat (o + len))), .val (.ref d), .val (.int (Int32.ofNat (q + len))), .val (.int (Int32.ofNat len)), .val (.int (Int32.ofNat len)), z'] [])) := by
    intro r
    induction r with
    | zero =>
      intro i hi z hz Tl Bk Xl pl fl cl
      have hil : i = len := by omega
      rw [hil] at Xl fl cl
      exact ⟨Tl, Bk, z, Xl, pl, fl, cl⟩
    | succ r ih =>
      intro i hi z hz Tl Bk Xl pl fl cl
      have all := X0.warmed.alike.symm.trans Xl.warmed.alike
      have hAl := hA0.keep all (pl.other hne hA0.1)
      have hBk := hB0.like all pl.1 fl.1 fl.2.1 fl.2.2.1
      have hlt : q + i < Bk.slots.size := by rw [fl.2.2.1]; omega
      have c3 : Steps p.tables e below (s₁.setTop (entryFrame m #[.ref b, .int (Int32.ofNat o), .ref d, .int (Int32.ofNat q), .int (Int32.ofNat len)] 7)) (Tl.setTop (mkF m 12 #[.val (.ref b), .val (.int (Int32.ofNat (o + i))), .val (.ref d), .val (.int (Int32.ofNat (q + i))), .val (.int (Int32.ofNat len)), .val (.int (Int32.ofNat i)), z] [.int (Int32.ofNat (o + i)), .ref b])) := cl.trans (by
        refine XS.iload Xl.here hexec rfl (hb hbytes d3) rfl ?_
        refine XS.iload Xl.here hexec rfl (hb hbytes d5) rfl ?_
        refine XS.icmpNo Xl.here hexec rfl (hb hbytes d7) rfl (ii_ge_f (lt32 (by omega) (by omega))) ?_
        refine XS.aloadN Xl.here hexec rfl (hb hbytes d10) rfl rfl ?_
        refine XS.iloadN Xl.here hexec rfl (hb hbytes d11) rfl ?_
        exact Steps.refl _)
      have c4 : Steps p.tables e below (s₁.setTop (entryFrame m #[.ref b, .int (Int32.ofNat o), .ref d, .int (Int32.ofNat q), .int (Int32.ofNat len)] 7)) (Tl.setTop (mkF m 13 #[.val (.ref b), .val (.int (Int32.ofNat (o + i))), .val (.ref d), .val (.int (Int32.ofNat (q + i))), .val (.int (Int32.ofNat len)), .val (.int (Int32.ofNat i)), z] [.int (cv A (o + i))])) := c3.trans (by
        refine Xl.aget hexec hAl rfl (hA.get (i := o + i) (by omega)) rfl rfl (hb hbytes d12) ?_
        exact Steps.refl _)
      have c5 : Steps p.tables e below (s₁.setTop (entryFrame m #[.ref b, .int (Int32.ofNat o), .ref d, .int (Int32.ofNat q), .int (Int32.ofNat len)] 7)) (Tl.setTop (mkF m 15 #[.val (.ref b), .val (.int (Int32.ofNat (o + i))), .val (.ref d), .val (.int (Int32.ofNat (q + i))), .val (.int (Int32.ofNat len)), .val (.int (Int32.ofNat i)), .val (.int (cv A (o + i)))] [])) := c4.trans (by
        refine XS.istoreS Xl.here hexec rfl (hb hbytes d13) rfl rfl hz ?_
        exact Steps.refl _)
      have c6 : Steps p.tables e below (s₁.setTop (entryFrame m #[.ref b, .int (Int32.ofNat o), .ref d, .int (Int32.ofNat q), .int (Int32.ofNat len)] 7)) (Tl.setTop (mkF m 31 #[.val (.ref b), .val (.int (Int32.ofNat (o + i))), .val (.ref d), .val (.int (Int32.ofNat (q + i))), .val (.int (Int32.ofNat len)), .val (.int (Int32.ofNat i)), .val (.int (cv A (o + i)))] [.int (lo8 (cv A (o + i))), .int (Int32.ofNat (q + i)), .ref d])) := c5.trans (by
        refine XS.iload Xl.here hexec rfl (hb hbytes d15) rfl ?_
        refine sipushV Xl.here hexec rfl 255 (hb hbytes d17) (by decide) ?_
        refine XS.icmpYes Xl.here hexec rfl (pc0 := 20) rfl (hb hbytes d20) rfl (ii_le_t (hp i (by omega))) (by decide) rfl ?_
        refine XS.aloadN Xl.here hexec rfl (hb hbytes d26) rfl rfl ?_
        refine XS.iloadN Xl.here hexec rfl (hb hbytes d27) rfl ?_
        refine XS.iload Xl.here hexec rfl (hb hbytes d28) rfl ?_
        refine i2b Xl.here hexec rfl (hb hbytes d30) rfl ?_
        exact Steps.refl _)
      obtain ⟨T7, X7, p7, st7⟩ := Xl.aput hexec hBk rfl hlt rfl (fits_lo8 (cv A (o + i))) (g := (mkF m 31 #[.val (.ref b), .val (.int (Int32.ofNat (o + i))), .val (.ref d), .val (.int (Int32.ofNat (q + i))), .val (.int (Int32.ofNat len)), .val (.int (Int32.ofNat i)), .val (.int (cv A (o + i)))] [.int (lo8 (cv A (o + i))), .int (Int32.ofNat (q + i)), .ref d])) rfl (rest := []) rfl (hb hbytes d31)
      have c8 : Steps p.tables e below (s₁.setTop (entryFrame m #[.ref b, .int (Int32.ofNat o), .ref d, .int (Int32.ofNat q), .int (Int32.ofNat len)] 7)) (T7.setTop (mkF m 32 #[.val (.ref b), .val (.int (Int32.ofNat (o + i))), .val (.ref d), .val (.int (Int32.ofNat (q + i))), .val (.int (Int32.ofNat len)), .val (.int (Int32.ofNat i)), .val (.int (cv A (o + i)))] [])) := c6.trans (st7 _ (Steps.refl _))
      have c9 : Steps p.tables e below (s₁.setTop (entryFrame m #[.ref b, .int (Int32.ofNat o), .ref d, .int (Int32.ofNat q), .int (Int32.ofNat len)] 7)) (T7.setTop (mkF m 3 #[.val (.ref b), .val (.int (Int32.ofNat (o + i) + 1)), .val (.ref d), .val (.int (Int32.ofNat (q + i) + 1)), .val (.int (Int32.ofNat len)), .val (.int (Int32.ofNat i + 1)), .val (.int (cv A (o + i)))] [])) := c8.trans (by
        refine iincV X7.here hexec rfl 1 (hb hbytes d32) (by decide) rfl rfl ?_
        refine iincV X7.here hexec rfl 1 (hb hbytes d35) (by decide) rfl rfl ?_
        refine iincV X7.here hexec rfl 1 (hb hbytes d38) (by decide) rfl rfl ?_
        refine XS.goto X7.here hexec rfl (pc0 := 41) rfl (hb hbytes d41) (by decide) rfl ?_
        exact Steps.refl _)
      have c10 : Steps p.tables e below (s₁.setTop (entryFrame m #[.ref b, .int (Int32.ofNat o), .ref d, .int (Int32.ofNat q), .int (Int32.ofNat len)] 7)) (T7.setTop (mkF m 3 #[.val (.ref b), .val (.int (Int32.ofNat (o + (i + 1)))), .val (.ref d), .val (.int (Int32.ofNat (q + (i + 1)))), .val (.int (Int32.ofNat len)), .val (.int (Int32.ofNat (i + 1))), .val (.int (cv A (o + i)))] [])) := by
        have := c9
        rw [succ32, succ32, succ32] at this
        exact this
      exact ih (i + 1) (by omega) _ (Or.inr ⟨_, rfl, rfl⟩) T7 _ (by rw [copyLocs_step, ← List.append_assoc]; exact X7) (pl.trans p7) (fl.step (by omega) hlt (by simp)) c10
  obtain ⟨T9, B9, z9, X9, p9, f9, g9⟩ := loop len 0 (by omega) .unset (Or.inl rfl) s₁ B (by simpa [copyLocs] using X0) ⟨hB0.1, fun _ _ => rfl, rfl⟩ (Laid.zero _ _ _) c2
  have c11 : Steps p.tables e below (s₁.setTop (entryFrame m #[.ref b, .int (Int32.ofNat o), .ref d, .int (Int32.ofNat q), .int (Int32.ofNat len)] 7)) (T9.setTop (mkF m 46 #[.val (.ref b), .val (.int (Int32.ofNat (o + len))), .val (.ref d), .val (.int (Int32.ofNat (q + len))), .val (.int (Int32.ofNat len)), .val (.int (Int32.ofNat len)), z9] [.int (Int32.ofNat len)])) := g9.trans (by
    refine XS.iload X9.here hexec rfl (hb hbytes d3) rfl ?_
    refine XS.iload X9.here hexec rfl (hb hbytes d5) rfl ?_
    refine XS.icmpYes X9.here hexec rfl (pc0 := 7) rfl (hb hbytes d7) rfl (ii_ge_t (nlt32 (by omega) (Nat.le_refl _))) (by decide) rfl ?_
    refine XS.iload X9.here hexec rfl (hb hbytes d44) rfl ?_
    exact Steps.refl _)
  exact ⟨T9, some (.int (Int32.ofNat len)), _, _, _, X9, by simp, rfl, rfl, (fun h => by cases h), ⟨rfl, B9, p9.from hh0, f9⟩, fun fs hl => c11.trans (X9.ireturnOut hexec hret rfl (Or.inl rfl) (hb hbytes d46) hl)⟩
end Cmp5
namespace Cmp3
def yN : MethodName := ⟨"java/lang/StringUTF16", "compress", "([CII)[B"⟩
abbrev yB : ByteArray := jdk_52_method_16_code
theorem d0 : decode yB 0 = .ok (.iload_n 2, 1) := by decide +kernel
theorem d1 : decode yB 1 = .ok (.newarray .byte, 2) := by decide +kernel
theorem d3 : decode yB 3 = .ok (.astore_n 3, 1) := by decide +kernel
theorem d4 : decode yB 4 = .ok (.aload_n 0, 1) := by decide +kernel
theorem d5 : decode yB 5 = .ok (.iload_n 1, 1) := by decide +kernel
theorem d6 : decode yB 6 = .ok (.aload_n 3, 1) := by decide +kernel
theorem d7 : decode yB 7 = .ok (.iconst 0, 1) := by decide +kernel
theorem d8 : decode yB 8 = .ok (.iload_n 2, 1) := by decide +kernel
theorem d9 : decode yB 9 = .ok (.invokestatic 115, 3) := by decide +kernel
theorem d12 : decode yB 12 = .ok (.istore 4, 2) := by decide +kernel
theorem d14 : decode yB 14 = .ok (.iload 4, 2) := by decide +kernel
theorem d16 : decode yB 16 = .ok (.iload_n 2, 1) := by decide +kernel
theorem d17 : decode yB 17 = .ok (.if_icmp (.eq) 40, 3) := by decide +kernel
theorem d57 : decode yB 57 = .ok (.aload_n 3, 1) := by decide +kernel
theorem d58 : decode yB 58 = .ok (.areturn, 1) := by decide +kernel
def site : List Cond := [.arrayClass .byte, Cmp5.tab] ++ staticW U16 115 Cmp5.yN
def tab : Cond := tabOf yN yB 6 (some (.array .byte)) site
def P (b : Addr) (A : Cell) (o len : Nat) (args : Array Value) (s : State) : Prop := args = #[.ref b, .int (Int32.ofNat o), .int (Int32.ofNat len)] ∧ Ch b A s ∧ o + len ≤ A.slots.size ∧ len ≤ 536870912 ∧ ∀ i, i < len → ¬ 255 < cv A (o + i)
def E (b : Addr) (A : Cell) (o len : Nat) (r : Option Value) (s u : State) : Prop := NewArr .byte "[B" len (fun j => .int (lo8 (cv A (o + j)))) r s u ∧ u.heap.size = s.heap.size + 1
/-- no char of the range above 255: a new byte[] of their low bytes -/
theorem law (l : Launch) (b : Addr) (A : Cell) (o len : Nat) : Law l yN 3 3 1 18 yB 6 (some (.array .byte)) site (P b A o len) (E b A o len) [] 1 len := by
  refine Law.of_walk (plainFor_of_name (by decide +kernel)) (by decide +kernel) (by decide +kernel) (by decide) (fun _ _ h => by rw [h.1]; rfl) (fun _ U U' hal hh h => ⟨h.1, h.2.1.mv hal hh, h.2.2⟩) (fun r U U' V V' h1 hal h2 h => ⟨NewArr.mv r U U' V V' h1 hal h2 h.1, by rw [h1, h2]; exact h.2⟩) ?_
  intro p e s m args below meth c s₁ X0 hexec hbytes hml hret hlk hnm hown hh0 W hP
  obtain ⟨rfl, hA, l1, l2, hp⟩ := hP
  have a31 := hA.1.2.2.2
  have c1 : Steps p.tables e below (s₁.setTop (entryFrame m #[.ref b, .int (Int32.ofNat o), .int (Int32.ofNat len)] 6)) (s₁.setTop (mkF m 0 #[.val (.ref b), .val (.int (Int32.ofNat o)), .val (.int (Int32.ofNat len)), .unset, .unset, .unset] [])) := entry rfl
  have c2 : Steps p.tables e below (s₁.setTop (entryFrame m #[.ref b, .int (Int32.ofNat o), .int (Int32.ofNat len)] 6)) (s₁.setTop (mkF m 1 #[.val (.ref b), .val (.int (Int32.ofNat o)), .val (.int (Int32.ofNat len)), .unset, .unset, .unset] [.int (Int32.ofNat len)])) := c1.trans (by
    refine XS.iloadN X0.here hexec rfl (hb hbytes d0) rfl ?_
    exact Steps.refl _)
  obtain ⟨T3, B3, X3, ba3, bs3, bv3, bh3, bf3, st3⟩ := X0.anew hexec (atype := .byte) (wk W (.arrayClass .byte)) rfl (by show len * 1 ≤ _; omega) (by omega) (g := (mkF m 1 #[.val (.ref b), .val (.int (Int32.ofNat o)), .val (.int (Int32.ofNat len)), .unset, .unset, .unset] [.int (Int32.ofNat len)])) rfl (hb hbytes d1) (rest := []) rfl (Nat.le_refl _) (by show 0 + len ≤ len; omega)
  rw [hh0] at ba3 st3
  have kp3 : XT.Kept s T3 := (XT.Kept.of_eq hh0).push bh3
  have hA3 := hA.keep X3.warmed.alike (kp3 _ _ hA.1.1)
  have hne : b ≠ s.heap.size := hA.1.ne
  have c4 : Steps p.tables e below (s₁.setTop (entryFrame m #[.ref b, .int (Int32.ofNat o), .int (Int32.ofNat len)] 6)) (T3.setTop (mkF m 3 #[.val (.ref b), .val (.int (Int32.ofNat o)), .val (.int (Int32.ofNat len)), .unset, .unset, .unset] [.ref s.heap.size])) := c2.trans (st3 _ (Steps.refl _))
  have c5 : Steps p.tables e below (s₁.setTop (entryFrame m #[.ref b, .int (Int32.ofNat o), .int (Int32.ofNat len)] 6)) (T3.setTop (mkF m 9 #[.val (.ref b), .val (.int (Int32.ofNat o)), .val (.int (Int32.ofNat len)), .val (.ref s.heap.size), .unset, .unset] [.int (Int32.ofNat len), .int 0, .ref s.heap.size, .int (Int32.ofNat o), .ref b])) := c4.trans (by
    refine XS.astoreN X3.here hexec rfl (hb hbytes d3) rfl rfl rfl ?_
    refine XS.aloadN X3.here hexec rfl (hb hbytes d4) rfl rfl ?_
    refine XS.iloadN X3.here hexec rfl (hb hbytes d5) rfl ?_
    refine XS.aloadN X3.here hexec rfl (hb hbytes d6) rfl rfl ?_
    refine iconstV X3.here hexec rfl 0 (hb hbytes d7) (by decide) ?_
    refine XS.iloadN X3.here hexec rfl (hb hbytes d8) rfl ?_
    exact Steps.refl _)
  obtain ⟨v6, T6, X6, E6, g6⟩ := X3.callS hexec (Cmp5.law l b A s.heap.size B3 o 0 len) hown (wks W (staticW U16 115 Cmp5.yN)) (wk W Cmp5.tab) (W := 0) (Nat.le_of_ble_eq_true rfl) (Nat.le_of_ble_eq_true rfl) (Nat.le_refl _) (by show 0 + len + 0 ≤ len; omega) (g := (mkF m 9 #[.val (.ref b), .val (.int (Int32.ofNat o)), .val (.int (Int32.ofNat len)), .val (.ref s.heap.size), .unset, .unset] [.int (Int32.ofNat len), .int (Int32.ofNat 0), .ref s.heap.size, .int (Int32.ofNat o), .ref b])) rfl (by rw [hml]; rfl) c5 (argsL := [.ref b, .int (Int32.ofNat o), .ref s.heap.size, .int (Int32.ofNat 0), .int (Int32.ofNat len)]) (rest := []) rfl rfl (by show 2 * 0 + 0 ≤ _; decide) (hb hbytes d9) (⟨rfl, hA3, ba3, hne, l1, by rw [bs3]; simp, hp⟩)
  obtain ⟨rfl, B6, p6, f6⟩ := E6
  have c7 : Steps p.tables e below (s₁.setTop (entryFrame m #[.ref b, .int (Int32.ofNat o), .int (Int32.ofNat len)] 6)) (T6.setTop (mkF m 12 #[.val (.ref b), .val (.int (Int32.ofNat o)), .val (.int (Int32.ofNat len)), .val (.ref s.heap.size), .unset, .unset] [.int (Int32.ofNat len)])) := g6
  have c8 : Steps p.tables e below (s₁.setTop (entryFrame m #[.ref b, .int (Int32.ofNat o), .int (Int32.ofNat len)] 6)) (T6.setTop (mkF m 58 #[.val (.ref b), .val (.int (Int32.ofNat o)), .val (.int (Int32.ofNat len)), .val (.ref s.heap.size), .val (.int (Int32.ofNat len)), .unset] [.ref s.heap.size])) := c7.trans (by
    refine XS.istore X6.here hexec rfl (hb hbytes d12) rfl rfl ?_
    refine XS.iload X6.here hexec rfl (hb hbytes d14) rfl ?_
    refine XS.iloadN X6.here hexec rfl (hb hbytes d16) rfl ?_
    refine XS.icmpYes X6.here hexec rfl (pc0 := 17) rfl (hb hbytes d17) rfl (ii_eq_t rfl) (by decide) rfl ?_
    refine XS.aloadN X6.here hexec rfl (hb hbytes d57) rfl rfl ?_
    exact Steps.refl _)
  have X8 := X6.wide (L' := []) (cells' := 1) (slots' := len) (fun x hx hlt => by
    simp only [List.nil_append, copyLocs, List.mem_map, List.mem_range] at hx
    obtain ⟨i, -, rfl⟩ := hx
    exact absurd hlt (Nat.lt_irrefl _)) (Nat.le_refl _) (by omega)
  exact ⟨T6, some (.ref s.heap.size), _, _, _, X8, rfl, rfl, rfl, (fun h => by cases h), ⟨⟨rfl, B6, ba3.like (X3.warmed.alike.symm.trans X6.warmed.alike) p6.1 f6.1 f6.2.1 f6.2.2.1, f6.2.1.trans bv3, by rw [X6.warmed.alike.findClass, f6.1]; exact bf3, by rw [f6.2.2.1, bs3]; simp, fun j hj => by rw [f6.2.2.2 j, if_pos (by omega)]; rfl, kp3.put p6 (Nat.le_refl _)⟩, by rw [p6.2.2, bh3, hh0]; simp⟩, fun fs hl => c8.trans (X8.areturnOut hexec rfl hret rfl (hb hbytes d58) hl)⟩
end Cmp3
namespace CodL
def yN : MethodName := ⟨"java/lang/StringUTF16", "coderFromArrayLen", "([BI)B"⟩
abbrev yB : ByteArray := jdk_52_method_15_code
theorem d0 : decode yB 0 = .ok (.iload_n 1, 1) := by decide +kernel
theorem d1 : decode yB 1 = .ok (.aload_n 0, 1) := by decide +kernel
theorem d2 : decode yB 2 = .ok (.arraylength, 1) := by decide +kernel
theorem d3 : decode yB 3 = .ok (.isub, 1) := by decide +kernel
theorem d4 : decode yB 4 = .ok (.bipush 31, 2) := by decide +kernel
theorem d6 : decode yB 6 = .ok (.iushr, 1) := by decide +kernel
theorem d7 : decode yB 7 = .ok (.i2b, 1) := by decide +kernel
theorem d8 : decode yB 8 = .ok (.ireturn, 1) := by decide +kernel
def site : List Cond := []
def tab : Cond := tabOf yN yB 2 (some .byte) site
def P (d : Addr) (B : Cell) (args : Array Value) (s : State) : Prop := args = #[.ref d, .int (Int32.ofNat B.slots.size)] ∧ Arr .byte d B s
def E (r : Option Value) (s u : State) : Prop := XT.PureE (some (.int 0)) r s u
/-- an array as long as the number of chars: LATIN1 -/
theorem law (l : Launch) (d : Addr) (B : Cell) : Law l yN 2 2 0 0 yB 2 (some .byte) site (P d B) E [] 0 0 := by
  refine Law.of_walk (plainFor_of_name (by decide +kernel)) (by decide +kernel) (by decide +kernel) (by decide) (fun _ _ h => by rw [h.1]; rfl) (fun _ U U' hal hh h => ⟨h.1, h.2.mv hal hh⟩) (fun r U U' V V' h1 hal h2 h => XT.PureE.mv r U U' V V' h1 hal h2 h) ?_
  intro p e s m args below meth c s₁ X0 hexec hbytes hml hret hlk hnm hown hh0 W hP
  obtain ⟨rfl, hB⟩ := hP
  have hB0 := hB.mv X0.warmed.alike hh0
  have c1 : Steps p.tables e below (s₁.setTop (entryFrame m #[.ref d, .int (Int32.ofNat B.slots.size)] 2)) (s₁.setTop (mkF m 0 #[.val (.ref d), .val (.int (Int32.ofNat B.slots.size))] [])) := entry rfl
  have c2 : Steps p.tables e below (s₁.setTop (entryFrame m #[.ref d, .int (Int32.ofNat B.slots.size)] 2)) (s₁.setTop (mkF m 2 #[.val (.ref d), .val (.int (Int32.ofNat B.slots.size))] [.ref d, .int (Int32.ofNat B.slots.size)])) := c1.trans (by
    refine XS.iloadN X0.here hexec rfl (hb hbytes d0) rfl ?_
    refine XS.aloadN X0.here hexec rfl (hb hbytes d1) rfl rfl ?_
    exact Steps.refl _)
  have c3 : Steps p.tables e below (s₁.setTop (entryFrame m #[.ref d, .int (Int32.ofNat B.slots.size)] 2)) (s₁.setTop (mkF m 8 #[.val (.ref d), .val (.int (Int32.ofNat B.slots.size))] [.int (lo8 (ushr (Int32.ofNat B.slots.size - Int32.ofNat B.slots.size) 31))])) := c2.trans (by
    refine X0.alen hexec hB0 rfl rfl (hb hbytes d2) ?_
    refine XS.isub X0.here hexec rfl (hb hbytes d3) rfl ?_
    refine bipushV X0.here hexec rfl 31 (hb hbytes d4) (by decide) ?_
    refine iushr X0.here hexec rfl (hb hbytes d6) rfl ?_
    refine i2b X0.here hexec rfl (hb hbytes d7) rfl ?_
    exact Steps.refl _)
  have e0 : lo8 (ushr (Int32.ofNat B.slots.size - Int32.ofNat B.slots.size) 31) = 0 := by rw [Int32.sub_self]; decide
  rw [e0] at c3
  exact ⟨s₁, some (.int 0), _, _, _, X0, rfl, rfl, rfl, (fun h => by cases h), ⟨rfl, hh0⟩, fun fs hl => c3.trans (X0.ireturnOut hexec hret rfl (Or.inr (Or.inr (Or.inl rfl))) (hb hbytes d8) hl)⟩
end CodL
/-- the String at a is Latin-1 over a new byte[] (the heap's one new cell): the low bytes of the len chars of A from o on; every cell but a is kept -/
def Got (a : Addr) (D : Cell) (fV fC : Field) (A : Cell) (o len : Nat) (r : Option Value) (s u : State) : Prop := r = none ∧ ∃ D' V : Cell, Blank "java/lang/String" a D' u ∧ Same D D' [fV.slot, fC.slot] ∧ D'.slots[fV.slot]? = some (.ref s.heap.size) ∧ D'.slots[fC.slot]? = some (.int 0) ∧ Arr .byte s.heap.size V u ∧ V.vm = .none ∧ u.vm.findClass "[B" = some V.cls ∧ V.slots.size = len ∧ (∀ j, j < len → V.slots[j]? = some (.int (lo8 (cv A (o + j))))) ∧ (∀ (y : Addr) (c : Cell), y ≠ a → s.heap[y]? = some c → u.heap[y]? = some c) ∧ u.heap.size = s.heap.size + 1
theorem Got.mv {a : Addr} {D A : Cell} {fV fC : Field} {o len : Nat} : ∀ r (U U' V V' : State), U'.heap = U.heap → V.vm.Alike V'.vm → V'.heap = V.heap → Got a D fV fC A o len r U V → Got a D fV fC A o len r U' V' :=
  fun r U U' V V' h1 hal h2 ⟨e0, D', X, a1, a2, a3, a4, a5, a6, a7, a8, a9, a10, a11⟩ => ⟨e0, D', X, a1.mv hal h2, a2, by rw [h1]; exact a3, a4, by rw [h1]; exact a5.mv hal h2, a6, by rw [hal.findClass]; exact a7, a8, a9, by rw [h1, h2]; exact a10, by rw [h1, h2]; exact a11⟩
namespace New4
def yN : MethodName := ⟨"java/lang/String", "<init>", "([CIILjava/lang/Void;)V"⟩
abbrev yB : ByteArray := jdk_42_method_149_code
theorem d0 : decode yB 0 = .ok (.aload_n 0, 1) := by decide +kernel
theorem d1 : decode yB 1 = .ok (.invokespecial 1, 3) := by decide +kernel
theorem d4 : decode yB 4 = .ok (.iload_n 3, 1) := by decide +kernel
theorem d5 : decode yB 5 = .ok (.ifCond (.ne) 22, 3) := by decide +kernel
theorem d27 : decode yB 27 = .ok (.getstatic 38, 3) := by decide +kernel
theorem d30 : decode yB 30 = .ok (.ifCond (.eq) 28, 3) := by decide +kernel
theorem d33 : decode yB 33 = .ok (.aload_n 1, 1) := by decide +kernel
theorem d34 : decode yB 34 = .ok (.iload_n 2, 1) := by decide +kernel
theorem d35 : decode yB 35 = .ok (.iload_n 3, 1) := by decide +kernel
theorem d36 : decode yB 36 = .ok (.invokestatic 177, 3) := by decide +kernel
theorem d39 : decode yB 39 = .ok (.astore 5, 2) := by decide +kernel
theorem d41 : decode yB 41 = .ok (.aload_n 0, 1) := by decide +kernel
theorem d42 : decode yB 42 = .ok (.aload 5, 2) := by decide +kernel
theorem d44 : decode yB 44 = .ok (.iload_n 3, 1) := by decide +kernel
theorem d45 : decode yB 45 = .ok (.invokestatic 47, 3) := by decide +kernel
theorem d48 : decode yB 48 = .ok (.putfield 15, 3) := by decide +kernel
theorem d51 : decode yB 51 = .ok (.aload_n 0, 1) := by decide +kernel
theorem d52 : decode yB 52 = .ok (.aload 5, 2) := by decide +kernel
theorem d54 : decode yB 54 = .ok (.putfield 9, 3) := by decide +kernel
theorem d57 : decode yB 57 = .ok (.return_, 1) := by decide +kernel
def site : List Cond := [.fieldLink "java/lang/String" 38 "java/lang/String" "COMPACT_STRINGS" "Z", Cmp3.tab, CodL.tab, .laysFinal "java/lang/String" "java/lang/String" "value" "[B", .fieldLink "java/lang/String" 9 "java/lang/String" "value" "[B", .laysFinal "java/lang/String" "java/lang/String" "coder" "B", .fieldLink "java/lang/String" 15 "java/lang/String" "coder" "B"] ++ objW "java/lang/String" 1 ++ staticW "java/lang/String" 177 Cmp3.yN ++ staticW "java/lang/String" 47 CodL.yN
def tab : Cond := tabOf yN yB 6 none site
def P (a : Addr) (D : Cell) (fV fC : Field) (b : Addr) (A : Cell) (z : Int32) (o len : Nat) (args : Array Value) (s : State) : Prop := args = #[.ref a, .ref b, .int (Int32.ofNat o), .int (Int32.ofNat len), .null] ∧ Blank "java/lang/String" a D s ∧ Found "java/lang/String" "value" "[B" fV s ∧ Found "java/lang/String" "coder" "B" fC s ∧ Ch b A s ∧ StaticIs s "java/lang/String" "COMPACT_STRINGS" "Z" (.int z) ∧ ¬ z = 0 ∧ 0 < len ∧ o + len ≤ A.slots.size ∧ len ≤ 536870912 ∧ ∀ i, i < len → ¬ 255 < cv A (o + i)
def E (a : Addr) (D : Cell) (fV fC : Field) (A : Cell) (o len : Nat) (r : Option Value) (s u : State) : Prop := Got a D fV fC A o len r s u
/-- len > 0, no char of the range above 255: a Latin-1 String of their low bytes -/
theorem law (l : Launch) (a : Addr) (D : Cell) (fV fC : Field) (b : Addr) (A : Cell) (z : Int32) (o len : Nat) : Law l yN 5 4 2 35 yB 6 none site (P a D fV fC b A z o len) (E a D fV fC A o len) [⟨a, fC.slot⟩, ⟨a, fV.slot⟩] 1 len := by
  refine Law.of_walk (plainFor_of_name (by decide +kernel)) (by decide +kernel) (by decide +kernel) (by decide) (fun _ _ h => by rw [h.1]; rfl) (fun _ U U' hal hh h => ⟨h.1, h.2.1.mv hal hh, h.2.2.1.al hal, h.2.2.2.1.al hal, h.2.2.2.2.1.mv hal hh, h.2.2.2.2.2.1.there hal hh, h.2.2.2.2.2.2⟩) (fun r U U' V V' h1 hal h2 h => Got.mv r U U' V V' h1 hal h2 h) ?_
  intro p e s m args below meth c s₁ X0 hexec hbytes hml hret hlk hnm hown hh0 W hP
  obtain ⟨rfl, hB, f1, f2, hA, s1, hz, l0, l1, l2, hp⟩ := hP
  have a31 := hA.1.2.2.2
  have c1 : Steps p.tables e below (s₁.setTop (entryFrame m #[.ref a, .ref b, .int (Int32.ofNat o), .int (Int32.ofNat len), .null] 6)) (s₁.setTop (mkF m 0 #[.val (.ref a), .val (.ref b), .val (.int (Int32.ofNat o)), .val (.int (Int32.ofNat len)), .val .null, .unset] [])) := entry rfl
  have c2 : Steps p.tables e below (s₁.setTop (entryFrame m #[.ref a, .ref b, .int (Int32.ofNat o), .int (Int32.ofNat len), .null] 6)) (s₁.setTop (mkF m 1 #[.val (.ref a), .val (.ref b), .val (.int (Int32.ofNat o)), .val (.int (Int32.ofNat len)), .val .null, .unset] [.ref a])) := c1.trans (by
    refine XS.aloadN X0.here hexec rfl (hb hbytes d0) rfl rfl ?_
    exact Steps.refl _)
  obtain ⟨T3, X3, q3, st3⟩ := X0.oinit hexec hown (wks W (objW "java/lang/String" 1)) (g := (mkF m 1 #[.val (.ref a), .val (.ref b), .val (.int (Int32.ofNat o)), .val (.int (Int32.ofNat len)), .val .null, .unset] [.ref a])) rfl (by rw [hml]; rfl) (rest := []) rfl (hb hbytes d1) (W := 0) (by show 2 * 0 + 0 ≤ _; decide) (Nat.le_of_ble_eq_true rfl) (Nat.le_of_ble_eq_true rfl)
  have hh3 := q3.trans hh0
  have c4 : Steps p.tables e below (s₁.setTop (entryFrame m #[.ref a, .ref b, .int (Int32.ofNat o), .int (Int32.ofNat len), .null] 6)) (T3.setTop (mkF m 27 #[.val (.ref a), .val (.ref b), .val (.int (Int32.ofNat o)), .val (.int (Int32.ofNat len)), .val .null, .unset] [])) := (c2.trans (st3 _ (Steps.refl _))).trans (by
    refine XS.iloadN X3.here hexec rfl (hb hbytes d4) rfl ?_
    refine XS.ifYes X3.here hexec rfl (pc0 := 5) rfl (hb hbytes d5) rfl (i0_ne_t (nz32 (by omega) l0)) (by decide) rfl ?_
    exact Steps.refl _)
  obtain ⟨T5, X5, q5, st5⟩ := X3.sget hexec hown (wk W (.fieldLink "java/lang/String" 38 "java/lang/String" "COMPACT_STRINGS" "Z")) s1 (fun _ _ h => by rw [hh3]; exact h) (g := (mkF m 27 #[.val (.ref a), .val (.ref b), .val (.int (Int32.ofNat o)), .val (.int (Int32.ofNat len)), .val .null, .unset] [])) rfl (hb hbytes d27)
  have hh5 := q5.trans hh3
  have c6 : Steps p.tables e below (s₁.setTop (entryFrame m #[.ref a, .ref b, .int (Int32.ofNat o), .int (Int32.ofNat len), .null] 6)) (T5.setTop (mkF m 30 #[.val (.ref a), .val (.ref b), .val (.int (Int32.ofNat o)), .val (.int (Int32.ofNat len)), .val .null, .unset] [.int z])) := c4.trans (st5 _ (Steps.refl _))
  have c7 : Steps p.tables e below (s₁.setTop (entryFrame m #[.ref a, .ref b, .int (Int32.ofNat o), .int (Int32.ofNat len), .null] 6)) (T5.setTop (mkF m 36 #[.val (.ref a), .val (.ref b), .val (.int (Int32.ofNat o)), .val (.int (Int32.ofNat len)), .val .null, .unset] [.int (Int32.ofNat len), .int (Int32.ofNat o), .ref b])) := c6.trans (by
    refine XS.ifNo X5.here hexec rfl (hb hbytes d30) rfl (i0_eq_f hz) ?_
    refine XS.aloadN X5.here hexec rfl (hb hbytes d33) rfl rfl ?_
    refine XS.iloadN X5.here hexec rfl (hb hbytes d34) rfl ?_
    refine XS.iloadN X5.here hexec rfl (hb hbytes d35) rfl ?_
    exact Steps.refl _)
  obtain ⟨v8, T8, X8, E8, g8⟩ := X5.callS hexec (Cmp3.law l b A o len) hown (wks W (staticW "java/lang/String" 177 Cmp3.yN)) (wk W Cmp3.tab) (W := 0) (Nat.le_of_ble_eq_true rfl) (Nat.le_of_ble_eq_true rfl) (Nat.le_refl _) (by show 0 + len ≤ len; omega) (g := (mkF m 36 #[.val (.ref a), .val (.ref b), .val (.int (Int32.ofNat o)), .val (.int (Int32.ofNat len)), .val .null, .unset] [.int (Int32.ofNat len), .int (Int32.ofNat o), .ref b])) rfl (by rw [hml]; rfl) c7 (argsL := [.ref b, .int (Int32.ofNat o), .int (Int32.ofNat len)]) (rest := []) rfl rfl (by show 2 * 0 + 0 ≤ _; decide) (hb hbytes d36) (⟨rfl, hA.mv X5.warmed.alike hh5, l1, l2, hp⟩)
  obtain ⟨e8, z8⟩ := E8
  obtain ⟨rfl, N, n1, n2, n3, n4, n5, n6⟩ := NewArr.mv _ T5 s _ _ hh5.symm (Vm.Alike.refl _) rfl e8
  rw [hh5] at z8
  have hB1 := hB.keep X8.warmed.alike (n6 _ _ hB.1)
  have hne : s.heap.size ≠ a := (Nat.ne_of_lt (Array.getElem?_eq_some_iff.mp hB.1).1).symm
  have c9 : Steps p.tables e below (s₁.setTop (entryFrame m #[.ref a, .ref b, .int (Int32.ofNat o), .int (Int32.ofNat len), .null] 6)) (T8.setTop (mkF m 39 #[.val (.ref a), .val (.ref b), .val (.int (Int32.ofNat o)), .val (.int (Int32.ofNat len)), .val .null, .unset] [.ref s.heap.size])) := g8
  have c10 : Steps p.tables e below (s₁.setTop (entryFrame m #[.ref a, .ref b, .int (Int32.ofNat o), .int (Int32.ofNat len), .null] 6)) (T8.setTop (mkF m 45 #[.val (.ref a), .val (.ref b), .val (.int (Int32.ofNat o)), .val (.int (Int32.ofNat len)), .val .null, .val (.ref s.heap.size)] [.int (Int32.ofNat N.slots.size), .ref s.heap.size, .ref a])) := by
    have hc : Steps p.tables e below (s₁.setTop (entryFrame m #[.ref a, .ref b, .int (Int32.ofNat o), .int (Int32.ofNat len), .null] 6)) (T8.setTop (mkF m 45 #[.val (.ref a), .val (.ref b), .val (.int (Int32.ofNat o)), .val (.int (Int32.ofNat len)), .val .null, .val (.ref s.heap.size)] [.int (Int32.ofNat len), .ref s.heap.size, .ref a])) := c9.trans (by
      refine XS.astore X8.here hexec rfl (hb hbytes d39) rfl rfl rfl ?_
      refine XS.aloadN X8.here hexec rfl (hb hbytes d41) rfl rfl ?_
      refine XS.aload X8.here hexec rfl (hb hbytes d42) rfl rfl ?_
      refine XS.iloadN X8.here hexec rfl (hb hbytes d44) rfl ?_
      exact Steps.refl _)
    rw [n4]; exact hc
  obtain ⟨v11, T11, X11, E11, g11⟩ := X8.callS hexec (CodL.law l s.heap.size N) hown (wks W (staticW "java/lang/String" 47 CodL.yN)) (wk W CodL.tab) (W := 1) (Nat.le_of_ble_eq_true rfl) (Nat.le_of_ble_eq_true rfl) (Nat.le_refl _) (by show 0 + len + 0 ≤ len; omega) (g := (mkF m 45 #[.val (.ref a), .val (.ref b), .val (.int (Int32.ofNat o)), .val (.int (Int32.ofNat len)), .val .null, .val (.ref s.heap.size)] [.int (Int32.ofNat N.slots.size), .ref s.heap.size, .ref a])) rfl (by rw [hml]; rfl) c10 (argsL := [.ref s.heap.size, .int (Int32.ofNat N.slots.size)]) (rest := [.ref a]) rfl rfl (by show 2 * 0 + (1 + 0) ≤ _; decide) (hb hbytes d45) (⟨rfl, n1⟩)
  obtain ⟨rfl, q11⟩ := E11
  have hB11 := hB1.mv (X8.warmed.alike.symm.trans X11.warmed.alike) q11
  have c12 : Steps p.tables e below (s₁.setTop (entryFrame m #[.ref a, .ref b, .int (Int32.ofNat o), .int (Int32.ofNat len), .null] 6)) (T11.setTop (mkF m 48 #[.val (.ref a), .val (.ref b), .val (.int (Int32.ofNat o)), .val (.int (Int32.ofNat len)), .val .null, .val (.ref s.heap.size)] [.int 0, .ref a])) := g11
  obtain ⟨T13, X13, p13, bl13, sl13, st13⟩ := X11.finit hexec hown (wk W (.fieldLink "java/lang/String" 15 "java/lang/String" "coder" "B")) (Or.inr ⟨_, (wk W (.laysFinal "java/lang/String" "java/lang/String" "coder" "B"))⟩) (Or.inl ⟨rfl, hnm⟩) f2 (Or.inl rfl) hB11 (t := .byte) (by decide +kernel) rfl (g := (mkF m 48 #[.val (.ref a), .val (.ref b), .val (.int (Int32.ofNat o)), .val (.int (Int32.ofNat len)), .val .null, .val (.ref s.heap.size)] [.int 0, .ref a])) rfl (rest := []) rfl (hb hbytes d48)
  have c14 : Steps p.tables e below (s₁.setTop (entryFrame m #[.ref a, .ref b, .int (Int32.ofNat o), .int (Int32.ofNat len), .null] 6)) (T13.setTop (mkF m 54 #[.val (.ref a), .val (.ref b), .val (.int (Int32.ofNat o)), .val (.int (Int32.ofNat len)), .val .null, .val (.ref s.heap.size)] [.ref s.heap.size, .ref a])) := (c12.trans (st13 _ (Steps.refl _))).trans (by
    refine XS.aloadN X13.here hexec rfl (hb hbytes d51) rfl rfl ?_
    refine XS.aload X13.here hexec rfl (hb hbytes d52) rfl rfl ?_
    exact Steps.refl _)
  obtain ⟨T15, X15, p15, bl15, sl15, st15⟩ := X13.finit hexec hown (wk W (.fieldLink "java/lang/String" 9 "java/lang/String" "value" "[B")) (Or.inr ⟨_, (wk W (.laysFinal "java/lang/String" "java/lang/String" "value" "[B"))⟩) (Or.inl ⟨rfl, hnm⟩) f1 (Or.inl rfl) bl13 (t := (.array .byte)) (by decide +kernel) rfl (g := (mkF m 54 #[.val (.ref a), .val (.ref b), .val (.int (Int32.ofNat o)), .val (.int (Int32.ofNat len)), .val .null, .val (.ref s.heap.size)] [.ref s.heap.size, .ref a])) rfl (rest := []) rfl (hb hbytes d54)
  have c16 : Steps p.tables e below (s₁.setTop (entryFrame m #[.ref a, .ref b, .int (Int32.ofNat o), .int (Int32.ofNat len), .null] 6)) (T15.setTop (mkF m 57 #[.val (.ref a), .val (.ref b), .val (.int (Int32.ofNat o)), .val (.int (Int32.ofNat len)), .val .null, .val (.ref s.heap.size)] [])) := c14.trans (st15 _ (Steps.refl _))
  have ap := apart (Or.inr ⟨_, (wk W (.laysFinal "java/lang/String" "java/lang/String" "value" "[B"))⟩) (Or.inr ⟨_, (wk W (.laysFinal "java/lang/String" "java/lang/String" "coder" "B"))⟩) f1 f2 (t₁ := .array .byte) (t₂ := .byte) (by decide +kernel) (by decide +kernel) (by decide)
  have al := X8.warmed.alike.symm.trans X15.warmed.alike
  have n7 : T11.heap[s.heap.size]? = some N := by rw [q11]; exact n1.1
  exact ⟨T15, none, _, _, _, X15, by simp, rfl, by omega, (fun _ => rfl), ⟨rfl, _, N, bl15, ((Same.refl D _).set _ (by simp)).set _ (by simp), sl15, (Cell.slots_setSlot_ne _ ap).trans sl13, n1.keep al (p15.other hne (p13.other hne n7)), n2, by rw [al.findClass]; exact n3, n4, n5, fun y c h1 h2 => p15.other h1 (p13.other h1 (by rw [q11]; exact n6 y c h2)), by rw [p15.2.2, p13.2.2, q11]; exact z8⟩, fun fs hl => c16.trans (X15.returnOut hexec hret (hb hbytes d57) hl)⟩
end New4
namespace New1
def yN : MethodName := ⟨"java/lang/String", "<init>", "([C)V"⟩
abbrev yB : ByteArray := jdk_42_method_3_code
theorem d0 : decode yB 0 = .ok (.aload_n 0, 1) := by decide +kernel
theorem d1 : decode yB 1 = .ok (.aload_n 1, 1) := by decide +kernel
theorem d2 : decode yB 2 = .ok (.iconst 0, 1) := by decide +kernel
theorem d3 : decode yB 3 = .ok (.aload_n 1, 1) := by decide +kernel
theorem d4 : decode yB 4 = .ok (.arraylength, 1) := by decide +kernel
theorem d5 : decode yB 5 = .ok (.aconst_null, 1) := by decide +kernel
theorem d6 : decode yB 6 = .ok (.invokespecial 27, 3) := by decide +kernel
theorem d9 : decode yB 9 = .ok (.return_, 1) := by decide +kernel
def site : List Cond := [New4.tab] ++ initW "java/lang/String" 27 New4.yN
def tab : Cond := tabOf yN yB 2 none site
def P (a : Addr) (D : Cell) (fV fC : Field) (b : Addr) (A : Cell) (z : Int32) (args : Array Value) (s : State) : Prop := args = #[.ref a, .ref b] ∧ Blank "java/lang/String" a D s ∧ Found "java/lang/String" "value" "[B" fV s ∧ Found "java/lang/String" "coder" "B" fC s ∧ Ch b A s ∧ StaticIs s "java/lang/String" "COMPACT_STRINGS" "Z" (.int z) ∧ ¬ z = 0 ∧ 0 < A.slots.size ∧ A.slots.size ≤ 536870912 ∧ ∀ i, i < A.slots.size → ¬ 255 < cv A i
def E (a : Addr) (D : Cell) (fV fC : Field) (A : Cell) (r : Option Value) (s u : State) : Prop := Got a D fV fC A 0 A.slots.size r s u
/-- new String(chars), not empty, no char above 255: a Latin-1 String of their low bytes -/
theorem law (l : Launch) (a : Addr) (D : Cell) (fV fC : Field) (b : Addr) (A : Cell) (z : Int32) : Law l yN 2 1 3 52 yB 2 none site (P a D fV fC b A z) (E a D fV fC A) [⟨a, fC.slot⟩, ⟨a, fV.slot⟩] 1 A.slots.size := by
  refine Law.of_walk (plainFor_of_name (by decide +kernel)) (by decide +kernel) (by decide +kernel) (by decide) (fun _ _ h => by rw [h.1]; rfl) (fun _ U U' hal hh h => ⟨h.1, h.2.1.mv hal hh, h.2.2.1.al hal, h.2.2.2.1.al hal, h.2.2.2.2.1.mv hal hh, h.2.2.2.2.2.1.there hal hh, h.2.2.2.2.2.2⟩) (fun r U U' V V' h1 hal h2 h => Got.mv r U U' V V' h1 hal h2 h) ?_
  intro p e s m args below meth c s₁ X0 hexec hbytes hml hret hlk hnm hown hh0 W hP
  obtain ⟨rfl, hB, f1, f2, hA, s1, hz, l0, l2, hp⟩ := hP
  have c1 : Steps p.tables e below (s₁.setTop (entryFrame m #[.ref a, .ref b] 2)) (s₁.setTop (mkF m 0 #[.val (.ref a), .val (.ref b)] [])) := entry rfl
  have c2 : Steps p.tables e below (s₁.setTop (entryFrame m #[.ref a, .ref b] 2)) (s₁.setTop (mkF m 6 #[.val (.ref a), .val (.ref b)] [.null, .int (Int32.ofNat A.slots.size), .int 0, .ref b, .ref a])) := c1.trans (by
    refine XS.aloadN X0.here hexec rfl (hb hbytes d0) rfl rfl ?_
    refine XS.aloadN X0.here hexec rfl (hb hbytes d1) rfl rfl ?_
    refine iconstV X0.here hexec rfl 0 (hb hbytes d2) (by decide) ?_
    refine XS.aloadN X0.here hexec rfl (hb hbytes d3) rfl rfl ?_
    refine X0.alen hexec (hA.1.mv X0.warmed.alike hh0) rfl rfl (hb hbytes d4) ?_
    refine XS.aconstNull X0.here hexec rfl (hb hbytes d5) ?_
    exact Steps.refl _)
  obtain ⟨v3, T3, X3, E3, g3⟩ := X0.callN hexec (New4.law l a D fV fC b A z 0 A.slots.size) rfl hown (wks W (initW "java/lang/String" 27 New4.yN)) (W New4.tab (by simp only [site, List.mem_cons, List.mem_append, true_or, or_true])) (W := 0) (Nat.le_of_ble_eq_true rfl) (Nat.le_of_ble_eq_true rfl) (Nat.le_refl _) (by show 0 + A.slots.size ≤ A.slots.size; omega) (g := (mkF m 6 #[.val (.ref a), .val (.ref b)] [.null, .int (Int32.ofNat A.slots.size), .int (Int32.ofNat 0), .ref b, .ref a])) rfl (by rw [hml]; rfl) c2 (argsL := [.ref b, .int (Int32.ofNat 0), .int (Int32.ofNat A.slots.size), .null]) (rest := []) rfl rfl (by show 2 * 0 + 0 ≤ _; decide) (hb hbytes d6) (⟨rfl, hB.mv X0.warmed.alike hh0, f1.al X0.warmed.alike, f2.al X0.warmed.alike, hA.mv X0.warmed.alike hh0, s1.there X0.warmed.alike hh0, hz, l0, by omega, l2, fun i hi => by rw [Nat.zero_add]; exact hp i hi⟩)
  have e0 := Got.mv _ s₁ s _ _ hh0.symm (Vm.Alike.refl _) rfl E3
  obtain rfl := e0.1
  have c4 : Steps p.tables e below (s₁.setTop (entryFrame m #[.ref a, .ref b] 2)) (T3.setTop (mkF m 9 #[.val (.ref a), .val (.ref b)] [])) := g3
  exact ⟨T3, none, _, _, _, X3, by simp, rfl, by omega, (fun _ => rfl), e0, fun fs hl => c4.trans (X3.returnOut hexec hret (hb hbytes d9) hl)⟩
theorem pays {l : Launch} {R : Room} {p : Program} {e : Env} {below : List Frame} {s : State} {sargs : Array Value} {len W : Nat} (a : Addr) (D : Cell) (fV fC : Field) (b : Addr) (A : Cell) (z : Int32) (htab : tab.before sargs s = true) (hfr : 4 ≤ R.frames) (hlo : W + 65 ≤ R.locals) :
    Back l R p e below s sargs yN len W (fun A₁ a₁ => A₁.cells + 1 ≤ R.cells ∧ A₁.slots + A.slots.size ≤ R.slots ∧ P a D fV fC b A z a₁ A₁.U) (fun A₁ _ v₁ B₁ => E a D fV fC A v₁ A₁.U B₁.U ∧ B₁.locs = A₁.locs ++ [⟨a, fC.slot⟩, ⟨a, fV.slot⟩] ∧ B₁.cells = A₁.cells + 1 ∧ B₁.slots = A₁.slots + A.slots.size) :=
  (law l a D fV fC b A z).pays htab hfr (by omega)
end New1
/-- the byte, read back as charAt reads it, is the char -/
theorem lo8_mask {x : Int32} (h0 : ¬ x < 0) (h1 : ¬ 255 < x) : lo8 x &&& 255 = x := by
  have t : ∀ k : Fin 256, lo8 (Int32.ofNat k.val) &&& 255 = Int32.ofNat k.val := by decide +kernel
  rw [Int32.lt_iff_toInt_lt] at h0 h1
  have e0 : (0 : Int32).toInt = 0 := rfl
  have e1 : (255 : Int32).toInt = 255 := rfl
  obtain ⟨k, hk⟩ : ∃ k : Nat, x.toInt = k := ⟨x.toInt.toNat, by omega⟩
  have hx : x = Int32.ofNat k := Int32.toInt_inj.mp (by rw [hk, Int32.toInt_ofNat_small (by omega)])
  rw [hx]
  exact t ⟨k, by omega⟩
end StrChars
namespace StrChars.Road
open Jvm Sem ClassFile Op Lib Jvm.Stand Jvm.Free Jvm.Free.XT
open Jvm.Lib.Cold (StaticIs)
abbrev ST : String := "java/lang/String"
/-- every table word that New1's law asks, flat -/
abbrev words : List Jvm.Cond := [.code New1.yN New1.yB 2 none, .initialized ST, .methodLink ST 27 New4.yN, .instanceMethod New4.yN,
  .code New4.yN New4.yB 6 none, .fieldLink ST 38 ST "COMPACT_STRINGS" "Z", .laysFinal ST ST "value" "[B", .fieldLink ST 9 ST "value" "[B", .laysFinal ST ST "coder" "B", .fieldLink ST 15 ST "coder" "B",
  .methodLink ST 1 Lib.objectInit, .instanceMethod Lib.objectInit, .code Lib.objectInit ⟨#[0xb1]⟩ 1 none, .methodLink ST 177 Cmp3.yN, .static Cmp3.yN, .methodLink ST 47 CodL.yN, .static CodL.yN,
  .code Cmp3.yN Cmp3.yB 6 (some (.array .byte)), .initialized U16, .arrayClass .byte, .methodLink U16 115 Cmp5.yN, .static Cmp5.yN, .code Cmp5.yN Cmp5.yB 7 (some .int), .code CodL.yN CodL.yB 2 (some .byte)]
theorem tab_of {a : Array Value} {s : State} (h : ∀ w ∈ words, w.before a s = true) : New1.tab.before a s = true := by
  have h5 : Cmp5.tab.before a s = true := unparts (wk h (.code Cmp5.yN Cmp5.yB 7 (some .int))) (wks h (.initialized Cmp5.yN.cls :: Cmp5.site))
  have hc : CodL.tab.before a s = true := unparts (wk h (.code CodL.yN CodL.yB 2 (some .byte))) (wks h (.initialized CodL.yN.cls :: CodL.site))
  have q5 : ∀ w ∈ Cmp5.tab :: words, w.before a s = true := fun w hw => (List.mem_cons.mp hw).elim (fun e => e ▸ h5) (h w)
  have h3 : Cmp3.tab.before a s = true := unparts (wk q5 (.code Cmp3.yN Cmp3.yB 6 (some (.array .byte)))) (wks q5 (.initialized Cmp3.yN.cls :: Cmp3.site))
  have q3 : ∀ w ∈ Cmp3.tab :: CodL.tab :: words, w.before a s = true := fun w hw => (List.mem_cons.mp hw).elim (fun e => e ▸ h3) fun hw => (List.mem_cons.mp hw).elim (fun e => e ▸ hc) (h w)
  have h4 : New4.tab.before a s = true := unparts (wk q3 (.code New4.yN New4.yB 6 none)) (wks q3 (.initialized New4.yN.cls :: New4.site))
  have q4 : ∀ w ∈ New4.tab :: words, w.before a s = true := fun w hw => (List.mem_cons.mp hw).elim (fun e => e ▸ h4) (h w)
  exact unparts (wk q4 (.code New1.yN New1.yB 2 none)) (wks q4 (.initialized New1.yN.cls :: New1.site))
/-- the words ride from the start Z to the walk's own state -/
theorem moved {Z s : State} {a0 args : Array Value} (hZ : Z.Warmed39 s.vm) (hw : ∀ d ∈ words, d.before a0 Z = true) : ∀ d ∈ words, d.before args s = true := fun d hd => by
  have q := hw d hd
  have t : ∀ d ∈ words, d = .arrayClass .byte ∨ (d.onTables && d.keepsFace) = true := by decide +kernel
  rcases t d hd with rfl | t
  · exact RoadKit.mvA hZ q
  · exact RoadKit.mv hZ q t
/-- WHAT COMES BACK, over the tables of the start Z: h the heap at the call, h' behind it -/
def Q (Z : State) (x : Addr) (A : Cell) (h : Heap) (v : Option Value) (h' : Heap) (L : List Loc) : Prop := v = none ∧ (∀ y ∈ L, y.base = x) ∧ RoadKit.Keep h h' [x] ∧ h'.size = h.size + 1 ∧ RoadKit.Exa Z h' x ST ∧ RoadKit.Fld Z h' x ST "value" "[B" (.ref h.size) ∧ RoadKit.Fld Z h' x ST "coder" "B" (.int 0) ∧
  (∃ V : Cell, RoadKit.Arr Z h' h.size V .byte ∧ V.vm = .none ∧ Z.vm.findClass "[B" = some V.cls ∧ V.slots.size = A.slots.size ∧ ∀ j, j < A.slots.size → V.slots[j]? = some (.int (lo8 (cv A j)))) ∧
  ∀ (O n d : String) (w : Value), RoadKit.Fld Z h x O n d w → RoadKit.slotOf Z O n d ≠ RoadKit.slotOf Z ST "value" "[B" → RoadKit.slotOf Z O n d ≠ RoadKit.slotOf Z ST "coder" "B" → RoadKit.Fld Z h' x O n d w
/-- **new String(chars) AT A CALL, IN THE ROAD'S FORM**: for specialBack behind newO: x the fresh String, b the char[] with the cell A -/
theorem back {p : Program} {l : Launch} {e : Env} {R : Room} {s : State} {args : Array Value} {below : List Frame} {len W : Nat} {Z : State} {a0 : Array Value} {h : Heap} (hZ : Z.Warmed39 s.vm) (hw : ∀ d ∈ words, d.before a0 Z = true) {kI : Nat} (wi : (Jvm.Cond.instantiable ST kI).before a0 Z = true)
    {x b : Addr} {A : Cell} {z : Int32} {v0 c0 : Value} (E : RoadKit.Exa Z h x ST) (V : RoadKit.Fld Z h x ST "value" "[B" v0) (C : RoadKit.Fld Z h x ST "coder" "B" c0) (K : RoadKit.Arr Z h b A .char) (hty : Typed .char A) (S : RoadKit.Sta Z h ST "COMPACT_STRINGS" "Z" (.int z)) (hz : ¬ z = 0)
    (l0 : 0 < A.slots.size) (l2 : A.slots.size ≤ 536870912) (hp : ∀ i, i < A.slots.size → ¬ 255 < cv A i) (hfr : 4 ≤ R.frames) (hlo : W + 65 ≤ R.locals) :
    Back l R p e below s args New1.yN len W (fun P a => a = #[.ref x, .ref b] ∧ P.U.heap = h ∧ P.cells + 1 ≤ R.cells ∧ P.slots + A.slots.size ≤ R.slots)
      (fun P _ v B => ∃ L, Q Z x A h v B.U.heap L ∧ B.locs = P.locs ++ L ∧ B.cells = P.cells + 1 ∧ B.slots = P.slots + A.slots.size) := by
  intro m meth c P g ig mk a X hg hsize hdg hW hn hp'
  obtain ⟨rfl, rfl, r1, r2⟩ := hp'
  have al : Z.vm.Alike P.U.vm := hZ.alike.trans X.warmed.alike
  obtain ⟨D, cfV, kV, iV, fV, hD, gV, stV, knV, obV, asV, slV⟩ := id V
  obtain ⟨D', cfC, kC, iC, fC, hD', gC, stC, -, -, asC, slC⟩ := id C
  cases hD.symm.trans hD'
  obtain ⟨D2, kD, e1, e2, e3, e4, e5⟩ := id E
  cases hD.symm.trans e1
  obtain ⟨c2, k2, i1, i2, i3, -⟩ := Cond.instantiable_spec wi
  cases e2.symm.trans i1
  cases e3.symm.trans i2
  obtain ⟨kU, u1, u2⟩ := al.2.2 _ _ e3
  have hB : Blank ST x D P.U := ⟨hD, ⟨knV, fun q hq => by rw [hq] at obV; cases obV⟩, by rw [al.findClass]; exact e2, kU, u1, by rw [u2]; exact i3, by rw [u2]; exact e5 i3⟩
  have F1 : Found ST "value" "[B" fV P.U := ⟨SBG.found_only al ⟨cfV, kV, iV, gV⟩, stV⟩
  have F2 : Found ST "coder" "B" fC P.U := ⟨SBG.found_only al ⟨cfC, kC, iC, gC⟩, stC⟩
  have hA : Ch b A P.U := ⟨⟨K.1, State.isArrayOf_alike al K.2.1, K.2.2, by omega⟩, hty⟩
  have hS : StaticIs P.U ST "COMPACT_STRINGS" "Z" (.int z) := by
    obtain ⟨cfS, iS, kS, fS, st, cS, t1, t2, t3, t4, t5, t6, t7⟩ := S
    exact StaticIs.there (s := { Z with heap := P.U.heap }) ⟨cfS, iS, kS, fS, st, cS, t1, t2, t3, t4, t5, (fun q => by rw [q] at t6; cases t6), t7⟩ al rfl
  obtain ⟨v, B, X', ⟨⟨hv, E', V', q1, q2, q3, q4, q5, q6, q7, q8, q9, q10, q11⟩, hl, hc, hs⟩, st⟩ := New1.pays x D fV fC b A z (tab_of (moved hZ hw)) hfr hlo m meth c P g ig mk _ X hg hsize hdg hW hn ⟨r1, r2, rfl, hB, F1, F2, hA, hS, hz, l0, l2, hp⟩
  have al' : Z.vm.Alike B.U.vm := hZ.alike.trans X'.warmed.alike
  have hsz : E'.slots.size = D.slots.size := by
    obtain ⟨-, -, -, kB, w1, w2, w3⟩ := q1
    obtain ⟨kB', y1, y2⟩ := al'.2.2 _ _ e3
    rw [q2.2.1] at w1
    cases w1.symm.trans y1
    rw [w3, e5 i3, y2]
  refine ⟨v, B, X', ⟨_, ⟨hv, ?_, ⟨by omega, fun y cy hy hn' => q10 y cy (by simpa using hn') hy, fun y cy hy => ?_⟩, q11, ⟨E', _, q1.1, by rw [q2.2.1]; exact e2, by rw [q2.2.1]; exact e3, by rw [q2.1]; exact obV, fun _ => by rw [hsz]; exact e5 i3⟩,
    ⟨E', cfV, kV, iV, fV, q1.1, gV, stV, by rw [q2.1]; exact knV, by rw [q2.1]; exact obV, by rw [q2.2.1]; exact asV, q3⟩, ⟨E', cfC, kC, iC, fC, q1.1, gC, stC, by rw [q2.1]; exact knV, by rw [q2.1]; exact obV, by rw [q2.2.1]; exact asC, q4⟩,
    ⟨V', ⟨q5.1, State.isArrayOf_alike al'.symm q5.2.1, q5.2.2.1⟩, q6, by rw [← al'.findClass]; exact q7, q8, fun j hj => by have := q9 j hj; rwa [Nat.zero_add] at this⟩, fun O n d w F n1 n2 => ?_⟩, hl, hc, hs⟩, st⟩
  · intro y hy
    simp only [List.mem_cons, List.not_mem_nil, or_false] at hy
    rcases hy with rfl | rfl <;> rfl
  · by_cases q : y = x
    · subst q
      cases hD.symm.trans hy
      exact ⟨E', q1.1, q2.2.1, q2.1, hsz⟩
    · exact ⟨cy, q10 y cy q hy, rfl, rfl, rfl⟩
  · obtain ⟨D3, cf, k, i, f, g1, g2, g3, g4, g5, g6, g7⟩ := F
    cases hD.symm.trans g1
    simp only [RoadKit.slotOf, g2, gV, gC, Option.map_some, Option.getD_some] at n1 n2
    exact ⟨E', cf, k, i, f, q1.1, g2, g3, by rw [q2.1]; exact g4, by rw [q2.1]; exact g5, by rw [q2.2.1]; exact g6, by rw [q2.2.2 f.slot (by simp [n1, n2])]; exact g7⟩
end StrChars.Road
namespace StrChars.Road
open Jvm Sem ClassFile Op Lib Jvm.Stand Jvm.Free Jvm.Free.XT
/-- WHAT COMES BACK, the byte[] as a list of values -/
def QA (Z : State) (x : Addr) (zn : Int32) (cs : List Int32) (h : Heap) (v : Option Value) (h' : Heap) (L : List Loc) : Prop := v = none ∧ (∀ y ∈ L, y.base = x) ∧ RoadKit.Keep h h' [x] ∧ h'.size = h.size + 1 ∧ RoadKit.Exa Z h' x ST ∧ RoadKit.Fld Z h' x ST "value" "[B" (.ref h.size) ∧ RoadKit.Fld Z h' x ST "coder" "B" (.int 0) ∧
  (∃ kb, Z.vm.findClass "[B" = some kb ∧ RoadKit.Arv Z h' h.size kb .byte zn (cs.map fun c => .int (lo8 c)) (.int 0)) ∧
  ∀ (O n d : String) (w : Value), RoadKit.Fld Z h x O n d w → RoadKit.slotOf Z O n d ≠ RoadKit.slotOf Z ST "value" "[B" → RoadKit.slotOf Z O n d ≠ RoadKit.slotOf Z ST "coder" "B" → RoadKit.Fld Z h' x O n d w
/-- **new String(chars) AT A CALL, THE ARRAYS AS LISTS**: the char[] at b holds cs, not empty, no char above 255 -/
theorem backArv {p : Program} {l : Launch} {e : Env} {R : Room} {s : State} {args : Array Value} {below : List Frame} {len W : Nat} {Z : State} {a0 : Array Value} {h : Heap} (hZ : Z.Warmed39 s.vm) (hw : ∀ d ∈ words, d.before a0 Z = true) {kI : Nat} (wi : (Jvm.Cond.instantiable ST kI).before a0 Z = true)
    {x b : Addr} {k : ClassId} {zn z : Int32} {cs : List Int32} {dv v0 c0 : Value} (E : RoadKit.Exa Z h x ST) (V : RoadKit.Fld Z h x ST "value" "[B" v0) (C : RoadKit.Fld Z h x ST "coder" "B" c0) (K : RoadKit.Arv Z h b k .char zn (cs.map Value.int) dv) (S : RoadKit.Sta Z h ST "COMPACT_STRINGS" "Z" (.int z)) (hz : ¬ z = 0)
    (hlen : zn.toNatClampNeg = cs.length) (h0 : 0 < cs.length) (hbig : cs.length ≤ 536870912) (hall : ∀ c ∈ cs, ¬ 255 < c) (hfr : 4 ≤ R.frames) (hlo : W + 65 ≤ R.locals) :
    Back l R p e below s args New1.yN len W (fun P a => a = #[.ref x, .ref b] ∧ P.U.heap = h ∧ P.cells + 1 ≤ R.cells ∧ P.slots + cs.length ≤ R.slots)
      (fun P _ v B => ∃ L, QA Z x zn cs h v B.U.heap L ∧ B.locs = P.locs ++ L ∧ B.cells = P.cells + 1 ∧ B.slots = P.slots + cs.length) := by
  obtain ⟨A, K1, K2, K3, K4, K5, K6⟩ := K
  have e : A.slots.size = cs.length := K3.trans hlen
  have hat : ∀ (i : Nat) (hi : i < cs.length), A.slots[i]? = some (.int cs[i]) := fun i hi => by rw [K5 i (by omega)]; simp [List.getD_eq_getElem?_getD, hi]
  have hcv : ∀ (i : Nat) (hi : i < cs.length), cv A i = cs[i] := fun i hi => by unfold cv; rw [hat i hi]
  have hty : Typed .char A := fun i v hv => by
    have hi : i < A.slots.size := (Array.getElem?_eq_some_iff.mp hv).1
    have q := K5 i hi
    rw [hv] at q
    rw [Option.some.inj q]
    exact K6 i hi
  refine Back.mono (back hZ hw wi E V C K1 hty S hz (by omega) (by omega) (fun i hi => by rw [hcv i (by omega)]; exact hall _ (List.getElem_mem _)) hfr hlo) (fun P a hp => ⟨hp.1, hp.2.1, hp.2.2.1, by rw [e]; exact hp.2.2.2⟩) (fun P a v B hp hq => ?_)
  obtain ⟨L, ⟨q1, q2, q3, q4, q5, q6, q7, ⟨V', v1, v2, v3, v4, v5⟩, q9⟩, hl, hc, hs⟩ := hq
  refine ⟨L, ⟨q1, q2, q3, q4, q5, q6, q7, ⟨V'.cls, v3, V', v1, rfl, by rw [v4, e, hlen], K4, fun i hi => ?_, fun i hi => ?_⟩, q9⟩, hl, hc, by rw [hs, e]⟩
  · have hi' : i < cs.length := by omega
    rw [v5 i (by omega), hcv i hi']; simp [List.getD_eq_getElem?_getD, hi']
  · have hi' : i < cs.length := by omega
    simp only [List.getD_eq_getElem?_getD, List.getElem?_map, List.getElem?_eq_getElem hi', Option.map_some, Option.getD_some]
    exact fits_lo8 _
end StrChars.Road
namespace StrChars.Road
open Jvm Sem ClassFile Op Lib Jvm.Stand Jvm.Free Jvm.Free.XT
/-- WHAT COMES BACK, in the writer's own shape -/
def QV (Z : State) (x : Addr) (N : Int32) (bs : List Int32) (h : Heap) (n0 : Nat) (v : Option Value) (h' : Heap) (L : List Loc) : Prop := v = none ∧ RoadKit.Fr n0 L ∧ RoadKit.Keep h h' [x] ∧ RoadKit.Exa Z h' x ST ∧ RoadKit.Fld Z h' x ST "coder" "B" (.int 0) ∧
  ∃ (t : Addr) (kb : ClassId), n0 ≤ t ∧ h.size ≤ t ∧ ¬ t = x ∧ RoadKit.Fld Z h' x ST "value" "[B" (.ref t) ∧ RoadKit.Arv Z h' t kb .byte N (bs.map Value.int) (.int 0)
/-- **new String(chars) AT A CALL, FOR THE WRITER**: a char[] of n known ints, each 0 to 255 -/
theorem backV {p : Program} {l : Launch} {e : Env} {R : Room} {s : State} {args : Array Value} {below : List Frame} {len W : Nat} {Z : State} {a0 : Array Value} {h : Heap} (hZ : Z.Warmed39 s.vm) (hw : ∀ d ∈ words, d.before a0 Z = true) {kI : Nat} (wi : (Jvm.Cond.instantiable ST kI).before a0 Z = true)
    {x b : Addr} {kC : ClassId} {cs bs : List Int32} {d v0 c0 : Value} {z N : Int32} {n n0 : Nat} (hx0 : n0 ≤ x) (hh0 : n0 ≤ h.size) (E : RoadKit.Exa Z h x ST) (V : RoadKit.Fld Z h x ST "value" "[B" v0) (C : RoadKit.Fld Z h x ST "coder" "B" c0) (K : RoadKit.Arv Z h b kC .char N (cs.map Value.int) d) (S : RoadKit.Sta Z h ST "COMPACT_STRINGS" "Z" (.int z)) (hz : ¬ z = 0)
    (hn : cs.length = n) (hN : N = Int32.ofNat n) (l0 : 0 < n) (l2 : n ≤ 4000) (hp : ∀ c ∈ cs, ¬ c < 0 ∧ ¬ (255 : Int32) < c) (hb : bs = cs.map (fun c => c.toInt8.toInt32)) (hfr : 4 ≤ R.frames) (hlo : W + 65 ≤ R.locals) :
    Back l R p e below s args (⟨"java/lang/String", "<init>", "([C)V"⟩ : MethodName) len W (fun P a => a = #[.ref x, .ref b] ∧ P.U.heap = h ∧ P.cells + 1 ≤ R.cells ∧ P.slots + n ≤ R.slots)
      (fun P _ v B => ∃ L, QV Z x N bs h n0 v B.U.heap L ∧ B.locs = P.locs ++ L ∧ B.cells = P.cells + 1 ∧ B.slots = P.slots + n) := by
  subst hn hN hb
  refine Back.mono (backArv hZ hw wi E V C K S hz (n32 (by omega)) l0 (by omega) (fun c hc => (hp c hc).2) hfr hlo) (fun P a hp => hp) (fun P a v B hp hq => ?_)
  obtain ⟨L, ⟨q1, q2, q3, q4, q5, q6, q7, ⟨kb, v1, v2⟩, q9⟩, hl, hc, hs⟩ := hq
  exact ⟨L, ⟨q1, fun y hy => by rw [q2 y hy]; exact hx0, q3, q5, q7, h.size, kb, hh0, Nat.le_refl _, Nat.ne_of_gt E.lt, q6, by rw [List.map_map]; exact v2⟩, hl, hc, hs⟩
end StrChars.Road
namespace StrChars
open Jvm Sem ClassFile Op Lib Jvm.Stand Jvm.Free.XT Jvm.Free.ALB Jvm.Free.JM Jvm.Free
open Jvm.Lib.Cold (StaticIs)
def hi8 (x : Int32) : Int32 := lo8 (x >>> ((8 : Int32) &&& 31))
/-- what StringUTF16.getChar makes of two bytes -/
def pairCh (u v : Int32) : Int32 := (((u &&& 255) <<< ((0 : Int32) &&& 31)) ||| ((v &&& 255) <<< ((8 : Int32) &&& 31))).toUInt32.toUInt16.toUInt32.toInt32
theorem lo8_and (x : Int32) : (lo8 x &&& 255).toBitVec.toNat = x.toBitVec.toNat % 256 := by
  have h : (lo8 x).toBitVec = (x.toBitVec.signExtend 8).signExtend 32 := by rw [lo8, Int8.toBitVec_toInt32, Int32.toBitVec_toInt8]
  rw [Int32.toBitVec_and, BitVec.toNat_and, h]
  have e : ((x.toBitVec.signExtend 8).signExtend 32).toNat % 256 = x.toBitVec.toNat % 256 := by
    rw [BitVec.toNat_signExtend]
    have hlt := x.toBitVec.isLt
    simp only [BitVec.toNat_setWidth, BitVec.toNat_signExtend]
    split <;> split <;> omega
  rw [← e]
  exact Nat.and_two_pow_sub_one_eq_mod _ 8
theorem pair_says {c : Int32} (h0 : ¬ c < 0) (h1 : ¬ 65535 < c) : pairCh (lo8 c) (hi8 c) = c := by
  rw [Int32.lt_iff_toInt_lt] at h0 h1
  have e0 : (0 : Int32).toInt = 0 := rfl
  have e1 : (65535 : Int32).toInt = 65535 := rfl
  have hc : c.toInt = c.toBitVec.toNat := by
    have := c.toBitVec.isLt
    have e : c.toInt = c.toBitVec.toInt := rfl
    rw [e] at h0 h1
    rw [e]
    rw [BitVec.toInt_eq_toNat_cond] at h0 h1 ⊢
    split at h0 <;> split <;> omega
  have hn : c.toBitVec.toNat < 65536 := by omega
  have a1 := lo8_and c
  have a2 : (hi8 c &&& 255).toBitVec.toNat = c.toBitVec.toNat / 256 := by
    rw [hi8, lo8_and]
    have e : ((8 : Int32) &&& 31) = 8 := by decide
    rw [e, Int32.toBitVec_shiftRight]
    have e2 : ((8 : Int32).toBitVec.smod 32) = 8#32 := by decide
    rw [e2, BitVec.sshiftRight_eq', BitVec.toNat_sshiftRight_of_msb_false (by rw [BitVec.msb_eq_false_iff_two_mul_lt]; omega)]
    show c.toBitVec.toNat >>> 8 % 256 = _
    rw [Nat.shiftRight_eq_div_pow]
    omega
  unfold pairCh
  apply Int32.toBitVec_inj.mp
  apply BitVec.eq_of_toNat_eq
  have f0 : ((0 : Int32) &&& 31) = 0 := by decide
  have f8 : ((8 : Int32) &&& 31) = 8 := by decide
  rw [f0, f8]
  have g : (((lo8 c &&& 255) <<< (0 : Int32)) ||| ((hi8 c &&& 255) <<< (8 : Int32))).toBitVec.toNat = c.toBitVec.toNat := by
    rw [Int32.toBitVec_or, Int32.toBitVec_shiftLeft, Int32.toBitVec_shiftLeft]
    have s0 : ((0 : Int32).toBitVec.smod 32) = 0#32 := by decide
    have s8 : ((8 : Int32).toBitVec.smod 32) = 8#32 := by decide
    rw [s0, s8, BitVec.toNat_or]
    simp only [BitVec.shiftLeft_eq', BitVec.toNat_shiftLeft, a1, a2]
    show (c.toBitVec.toNat % 256) <<< 0 % 2 ^ 32 ||| (c.toBitVec.toNat / 256) <<< 8 % 2 ^ 32 = _
    rw [Nat.shiftLeft_zero, Nat.mod_eq_of_lt (show c.toBitVec.toNat % 256 < 2 ^ 32 by omega), Nat.mod_eq_of_lt (show (c.toBitVec.toNat / 256) <<< 8 < 2 ^ 32 by rw [Nat.shiftLeft_eq]; omega), Nat.or_comm, ← Nat.shiftLeft_add_eq_or_of_lt (by omega), Nat.shiftLeft_eq]
    omega
  show BitVec.toNat (((((lo8 c &&& 255) <<< (0 : Int32)) ||| ((hi8 c &&& 255) <<< (8 : Int32))).toBitVec.setWidth 16).setWidth 32) = _
  rw [BitVec.toNat_setWidth, BitVec.toNat_setWidth, g]
  omega
end StrChars
namespace StrChars
open Jvm Sem ClassFile Op Lib Jvm.Stand Jvm.Free.XT Jvm.Free.ALB Jvm.Free.JM Jvm.Free
open Jvm.Lib.Cold (StaticIs)
/-- the array's cell V codes the n chars f 0 .. f (n - 1) by the coder cd, as the JDK does: coder 1 just where some char is above 255 -/
def Cod (cd : Int32) (n : Nat) (f : Nat → Int32) (V : Cell) : Prop := (cd = 0 ∧ V.slots.size = n ∧ ∀ j, j < n → V.slots[j]? = some (.int (lo8 (f j))) ∧ ¬ 255 < f j) ∨ (cd = 1 ∧ V.slots.size = 2 * n ∧ (∀ j, j < n → V.slots[2 * j]? = some (.int (lo8 (f j))) ∧ V.slots[2 * j + 1]? = some (.int (hi8 (f j)))) ∧ ∃ j, j < n ∧ 255 < f j)
/-- **x is a String of the n chars f 0 .. f (n - 1)**, Latin-1 or UTF-16; its array at t has the cell V -/
def Txt (x t : Addr) (V : Cell) (cd : Int32) (n : Nat) (f : Nat → Int32) (U : State) : Prop := Exact "java/lang/String" x U ∧ Has x "java/lang/String" "value" "[B" (.ref t) U ∧ Has x "java/lang/String" "coder" "B" (.int cd) U ∧ XT.Arr .byte t V U ∧ Cod cd n f V ∧ ∀ j, j < n → ¬ f j < 0 ∧ ¬ 65535 < f j
theorem Txt.mv {x t : Addr} {V : Cell} {cd : Int32} {n : Nat} {f : Nat → Int32} {U U' : State} (h : Txt x t V cd n f U) (hal : U.vm.Alike U'.vm) (hh : U'.heap = U.heap) : Txt x t V cd n f U' := ⟨h.1.mv hal hh, h.2.1.mv hal hh, h.2.2.1.mv hal hh, h.2.2.2.1.mv hal hh, h.2.2.2.2⟩
end StrChars
namespace StrChars.Road
open Jvm Sem ClassFile Op Lib Jvm.Stand Jvm.Free Jvm.Free.XT
open Jvm.Lib.Cold (StaticIs)
theorem consq {a : Array Value} {s : State} {c : Jvm.Cond} {L : List Jvm.Cond} (h0 : c.before a s = true) (h : ∀ w ∈ L, w.before a s = true) : ∀ w ∈ c :: L, w.before a s = true := fun w hw => (List.mem_cons.mp hw).elim (fun e => e ▸ h0) (h w)
/-- the bytes of the chars cs, low before high -/
def wideBytes : List Int32 → List Value
  | [] => []
  | c :: cs => .int (lo8 c) :: .int (hi8 c) :: wideBytes cs
theorem wide_lo (d : Value) : ∀ (cs : List Int32) (j : Nat), j < cs.length → (wideBytes cs).getD (2 * j) d = .int (lo8 (cs.getD j 0))
  | [], j, h => absurd h (Nat.not_lt_zero j)
  | c :: cs, 0, _ => rfl
  | c :: cs, j + 1, h => by
    have q := wide_lo d cs j (by simpa using h)
    rw [show 2 * (j + 1) = 2 * j + 1 + 1 from by omega]
    simpa [wideBytes] using q
theorem wide_hi (d : Value) : ∀ (cs : List Int32) (j : Nat), j < cs.length → (wideBytes cs).getD (2 * j + 1) d = .int (hi8 (cs.getD j 0))
  | [], j, h => absurd h (Nat.not_lt_zero j)
  | c :: cs, 0, _ => rfl
  | c :: cs, j + 1, h => by
    have q := wide_hi d cs j (by simpa using h)
    rw [show 2 * (j + 1) + 1 = 2 * j + 1 + 1 + 1 from by omega]
    simpa [wideBytes] using q
theorem low_at (d : Value) (cs : List Int32) (j : Nat) (h : j < cs.length) : (cs.map fun c => Value.int (lo8 c)).getD j d = .int (lo8 (cs.getD j 0)) := by
  simp [List.getD_eq_getElem?_getD, h]
/-- an array of N2 bytes vs codes the chars cs by the coder cd -/
def CodA (cs : List Int32) (cd N2 : Int32) (vs : List Value) : Prop := (cd = 0 ∧ N2 = Int32.ofNat cs.length ∧ vs = (cs.map fun c => Value.int (lo8 c)) ∧ ∀ c ∈ cs, ¬ 255 < c) ∨ (cd = 1 ∧ N2 = Int32.ofNat (2 * cs.length) ∧ vs = wideBytes cs ∧ ∃ c ∈ cs, 255 < c)
theorem CodA.cod {cs : List Int32} {cd N2 : Int32} {vs : List Value} {V : Cell} (h : CodA cs cd N2 vs) (hn : 2 * cs.length < 2 ^ 31) (hs : V.slots.size = N2.toNatClampNeg) (hv : RoadKit.Has V vs (.int 0)) : Cod cd cs.length (fun j => cs.getD j 0) V := by
  rcases h with ⟨rfl, rfl, rfl, h⟩ | ⟨rfl, rfl, rfl, c, hc, hw⟩
  · rw [n32 (by omega)] at hs
    exact Or.inl ⟨rfl, hs, fun j hj => ⟨by rw [hv j (by omega), low_at _ _ _ hj], by
      have e : cs.getD j 0 = cs[j] := by simp [List.getD_eq_getElem?_getD, hj]
      show ¬ 255 < cs.getD j 0
      rw [e]; exact h _ (List.getElem_mem _)⟩⟩
  · rw [n32 (by omega)] at hs
    obtain ⟨j, hj, rfl⟩ := List.getElem_of_mem hc
    exact Or.inr ⟨rfl, hs, fun j hj => ⟨by rw [hv _ (by omega), wide_lo _ _ _ hj], by rw [hv _ (by omega), wide_hi _ _ _ hj]⟩, j, hj, by
      have e : cs.getD j 0 = cs[j] := by simp [List.getD_eq_getElem?_getD, hj]
      show 255 < cs.getD j 0
      rw [e]; exact hw⟩
/-- an object of exactly java/lang/String, its two fields found: as the laws ask it -/
theorem strObj {Z U : State} {a0 : Array Value} {kI : Nat} (wi : (Jvm.Cond.instantiable ST kI).before a0 Z = true) (al : Z.vm.Alike U.vm) {x : Addr} {v0 c0 : Value} (E : RoadKit.Exa Z U.heap x ST) (V : RoadKit.Fld Z U.heap x ST "value" "[B" v0) (C : RoadKit.Fld Z U.heap x ST "coder" "B" c0) :
    ∃ (D : Cell) (fV fC : Field), Blank ST x D U ∧ Found ST "value" "[B" fV U ∧ Found ST "coder" "B" fC U ∧ D.slots[fV.slot]? = some v0 ∧ D.slots[fC.slot]? = some c0 ∧ RoadKit.slotOf Z ST "value" "[B" = fV.slot ∧ RoadKit.slotOf Z ST "coder" "B" = fC.slot := by
  obtain ⟨D, cfV, kV, iV, fV, hD, gV, stV, knV, obV, asV, slV⟩ := V
  obtain ⟨D', cfC, kC, iC, fC, hD', gC, stC, -, -, asC, slC⟩ := C
  cases hD.symm.trans hD'
  obtain ⟨D2, kD, e1, e2, e3, e4, e5⟩ := E
  cases hD.symm.trans e1
  obtain ⟨c2, k2, i1, i2, i3, -⟩ := Cond.instantiable_spec wi
  cases e2.symm.trans i1
  cases e3.symm.trans i2
  obtain ⟨kU, u1, u2⟩ := al.2.2 _ _ e3
  exact ⟨D, fV, fC, ⟨hD, ⟨knV, fun q hq => by rw [hq] at obV; cases obV⟩, by rw [al.findClass]; exact e2, kU, u1, by rw [u2]; exact i3, by rw [u2]; exact e5 i3⟩, ⟨SBG.found_only al ⟨cfV, kV, iV, gV⟩, stV⟩, ⟨SBG.found_only al ⟨cfC, kC, iC, gC⟩, stC⟩, slV, slC, by simp [RoadKit.slotOf, gV], by simp [RoadKit.slotOf, gC]⟩
theorem sta_is {Z U : State} (al : Z.vm.Alike U.vm) {C n d : String} {v : Value} (S : RoadKit.Sta Z U.heap C n d v) : StaticIs U C n d v := by
  obtain ⟨cfS, iS, kS, fS, st, cS, t1, t2, t3, t4, t5, t6, t7⟩ := S
  exact StaticIs.there (s := { Z with heap := U.heap }) ⟨cfS, iS, kS, fS, st, cS, t1, t2, t3, t4, t5, (fun q => by rw [q] at t6; cases t6), t7⟩ al rfl
end StrChars.Road
namespace StrChars
open Jvm Sem ClassFile Op Lib Jvm.Stand Jvm.Free.XT Jvm.Free.ALB Jvm.Free.JM Jvm.Free
open Jvm.Lib.Cold (StaticIs)
/-- what place i of a byte[]'s cell holds -/
def yv (A : Cell) (i : Nat) : Int32 := match A.slots[i]? with | some (.int x) => x | _ => 0
theorem yv_get {a : Addr} {A : Cell} {U : State} (h : XT.Arr .byte a A U) (ht : Typed .byte A) {i : Nat} (hi : i < A.slots.size) : A.slots[i]? = some (.int (yv A i)) := by
  have e := Array.getElem?_eq_getElem hi
  have f := ht i _ e
  unfold yv; rw [e]
  generalize A.slots[i] = v at f
  cases v <;> simp [fits] at f ⊢
/-- the two arrays are equal, place for place -/
def EqC (A B : Cell) : Prop := A.slots.size = B.slots.size ∧ ∀ i, i < A.slots.size → yv A i = yv B i
/-- a boolean that says whether p -/
def Says01 (q : Prop) (r : Option Value) (s u : State) : Prop := ∃ v : Int32, r = some (.int v) ∧ u.heap = s.heap ∧ ((v = 1 ∧ q) ∨ (v = 0 ∧ ¬ q))
theorem Says01.mv {q : Prop} : ∀ r (U U' V V' : State), U'.heap = U.heap → V.vm.Alike V'.vm → V'.heap = V.heap → Says01 q r U V → Says01 q r U' V' :=
  fun r U U' V V' h1 _ h2 ⟨v, a, b, c⟩ => ⟨v, a, by rw [h1, h2]; exact b, c⟩
namespace LEq
def yN : MethodName := ⟨"java/lang/StringLatin1", "equals", "([B[B)Z"⟩
abbrev yB : ByteArray := jdk_43_method_13_code
theorem d0 : decode yB 0 = .ok (.aload_n 0, 1) := by decide +kernel
theorem d1 : decode yB 1 = .ok (.arraylength, 1) := by decide +kernel
theorem d2 : decode yB 2 = .ok (.aload_n 1, 1) := by decide +kernel
theorem d3 : decode yB 3 = .ok (.arraylength, 1) := by decide +kernel
theorem d4 : decode yB 4 = .ok (.if_icmp (.ne) 30, 3) := by decide +kernel
theorem d7 : decode yB 7 = .ok (.iconst 0, 1) := by decide +kernel
theorem d8 : decode yB 8 = .ok (.istore_n 2, 1) := by decide +kernel
theorem d9 : decode yB 9 = .ok (.iload_n 2, 1) := by decide +kernel
theorem d10 : decode yB 10 = .ok (.aload_n 0, 1) := by decide +kernel
theorem d11 : decode yB 11 = .ok (.arraylength, 1) := by decide +kernel
theorem d12 : decode yB 12 = .ok (.if_icmp (.ge) 20, 3) := by decide +kernel
theorem d15 : decode yB 15 = .ok (.aload_n 0, 1) := by decide +kernel
theorem d16 : decode yB 16 = .ok (.iload_n 2, 1) := by decide +kernel
theorem d17 : decode yB 17 = .ok (.baload, 1) := by decide +kernel
theorem d18 : decode yB 18 = .ok (.aload_n 1, 1) := by decide +kernel
theorem d19 : decode yB 19 = .ok (.iload_n 2, 1) := by decide +kernel
theorem d20 : decode yB 20 = .ok (.baload, 1) := by decide +kernel
theorem d21 : decode yB 21 = .ok (.if_icmp (.eq) 5, 3) := by decide +kernel
theorem d24 : decode yB 24 = .ok (.iconst 0, 1) := by decide +kernel
theorem d25 : decode yB 25 = .ok (.ireturn, 1) := by decide +kernel
theorem d26 : decode yB 26 = .ok (.iinc 2 1, 3) := by decide +kernel
theorem d29 : decode yB 29 = .ok (.goto (-20), 3) := by decide +kernel
theorem d32 : decode yB 32 = .ok (.iconst 1, 1) := by decide +kernel
theorem d33 : decode yB 33 = .ok (.ireturn, 1) := by decide +kernel
theorem d34 : decode yB 34 = .ok (.iconst 0, 1) := by decide +kernel
theorem d35 : decode yB 35 = .ok (.ireturn, 1) := by decide +kernel
def site : List Cond := []
def tab : Cond := tabOf yN yB 3 (some .boolean) site
def P (a : Addr) (A : Cell) (b : Addr) (B : Cell) (args : Array Value) (s : State) : Prop := args = #[.ref a, .ref b] ∧ XT.Arr .byte a A s ∧ Typed .byte A ∧ XT.Arr .byte b B s ∧ Typed .byte B
/-- whether two byte[] are equal, place for place -/
theorem law (l : Launch) (a : Addr) (A : Cell) (b : Addr) (B : Cell) : Law l yN 2 2 0 0 yB 3 (some .boolean) site (P a A b B) (Says01 (EqC A B)) [] 0 0 := by
  refine Law.of_walk (plainFor_of_name (by decide +kernel)) (by decide +kernel) (by decide +kernel) (by decide) (fun _ _ h => by rw [h.1]; rfl) (fun _ U U' hal hh h => ⟨h.1, h.2.1.mv hal hh, h.2.2.1, h.2.2.2.1.mv hal hh, h.2.2.2.2⟩) (fun r U U' V V' h1 hal h2 h => Says01.mv r U U' V V' h1 hal h2 h) ?_
  intro p e s m args below meth c s₁ X0 hexec hbytes hml hret hlk hnm hown hh0 W hP
  obtain ⟨rfl, hA, tA, hB, tB⟩ := hP
  have a31 := hA.2.2.2
  have b31 := hB.2.2.2
  have hA0 := hA.mv X0.warmed.alike hh0
  have hB0 := hB.mv X0.warmed.alike hh0
  have c1 : Steps p.tables e below (s₁.setTop (entryFrame m #[.ref a, .ref b] 3)) (s₁.setTop (mkF m 0 #[.val (.ref a), .val (.ref b), .unset] [])) := entry rfl
  have c2 : Steps p.tables e below (s₁.setTop (entryFrame m #[.ref a, .ref b] 3)) (s₁.setTop (mkF m 4 #[.val (.ref a), .val (.ref b), .unset] [.int (Int32.ofNat B.slots.size), .int (Int32.ofNat A.slots.size)])) := c1.trans (by
    refine XS.aloadN X0.here hexec rfl (hb hbytes d0) rfl rfl ?_
    refine X0.alen hexec hA0 rfl rfl (hb hbytes d1) ?_
    refine XS.aloadN X0.here hexec rfl (hb hbytes d2) rfl rfl ?_
    refine X0.alen hexec hB0 rfl rfl (hb hbytes d3) ?_
    exact Steps.refl _)
  by_cases hs : A.slots.size = B.slots.size
  · have c3 : Steps p.tables e below (s₁.setTop (entryFrame m #[.ref a, .ref b] 3)) (s₁.setTop (mkF m 9 #[.val (.ref a), .val (.ref b), .val (.int 0)] [])) := c2.trans (by
      refine XS.icmpNo X0.here hexec rfl (hb hbytes d4) rfl (ii_ne_f (by rw [hs])) ?_
      refine iconstV X0.here hexec rfl 0 (hb hbytes d7) (by decide) ?_
      refine XS.istoreN X0.here hexec rfl (hb hbytes d8) rfl rfl ?_
      exact Steps.refl _)
    have loop : ∀ (r i : Nat), i + r = A.slots.size → (∀ j, j < i → yv A j = yv B j) → Steps p.tables e below (s₁.setTop (entryFrame m #[.ref a, .ref b] 3)) (s₁.setTop (mkF m 9 #[.val (.ref a), .val (.ref b), .val (.int (Int32.ofNat i))] [])) → ∃ (pc : Nat) (Ls : Array Slot) (v : Int32), (pc = 25 ∨ pc = 33) ∧ ((v = 1 ∧ EqC A B) ∨ (v = 0 ∧ ¬ EqC A B)) ∧ Steps p.tables e below (s₁.setTop (entryFrame m #[.ref a, .ref b] 3)) (s₁.setTop (mkF m pc Ls [.int v])) := by
      intro r
      induction r with
      | zero =>
        intro i hi he cl
        exact ⟨33, _, 1, Or.inr rfl, Or.inl ⟨rfl, hs, fun j hj => he j (by omega)⟩, cl.trans (by
          refine XS.iloadN X0.here hexec rfl (hb hbytes d9) rfl ?_
          refine XS.aloadN X0.here hexec rfl (hb hbytes d10) rfl rfl ?_
          refine X0.alen hexec hA0 rfl rfl (hb hbytes d11) ?_
          refine XS.icmpYes X0.here hexec rfl (pc0 := 12) rfl (hb hbytes d12) rfl (ii_ge_t (nlt32 (by omega) (by omega))) (by decide) rfl ?_
          refine iconstV X0.here hexec rfl 1 (hb hbytes d32) (by decide) ?_
          exact Steps.refl _)⟩
      | succ r ih =>
        intro i hi he cl
        have c4 : Steps p.tables e below (s₁.setTop (entryFrame m #[.ref a, .ref b] 3)) (s₁.setTop (mkF m 21 #[.val (.ref a), .val (.ref b), .val (.int (Int32.ofNat i))] [.int (yv B i), .int (yv A i)])) := cl.trans (by
          refine XS.iloadN X0.here hexec rfl (hb hbytes d9) rfl ?_
          refine XS.aloadN X0.here hexec rfl (hb hbytes d10) rfl rfl ?_
          refine X0.alen hexec hA0 rfl rfl (hb hbytes d11) ?_
          refine XS.icmpNo X0.here hexec rfl (hb hbytes d12) rfl (ii_ge_f (lt32 (by omega) (by omega))) ?_
          refine XS.aloadN X0.here hexec rfl (hb hbytes d15) rfl rfl ?_
          refine XS.iloadN X0.here hexec rfl (hb hbytes d16) rfl ?_
          refine X0.aget hexec hA0 rfl (yv_get hA tA (i := i) (by omega)) rfl rfl (hb hbytes d17) ?_
          refine XS.aloadN X0.here hexec rfl (hb hbytes d18) rfl rfl ?_
          refine XS.iloadN X0.here hexec rfl (hb hbytes d19) rfl ?_
          refine X0.aget hexec hB0 rfl (yv_get hB tB (i := i) (by omega)) rfl rfl (hb hbytes d20) ?_
          exact Steps.refl _)
        by_cases hv : yv A i = yv B i
        · have c5 : Steps p.tables e below (s₁.setTop (entryFrame m #[.ref a, .ref b] 3)) (s₁.setTop (mkF m 9 #[.val (.ref a), .val (.ref b), .val (.int (Int32.ofNat i + 1))] [])) := c4.trans (by
            refine XS.icmpYes X0.here hexec rfl (pc0 := 21) rfl (hb hbytes d21) rfl (ii_eq_t hv) (by decide) rfl ?_
            refine iincV X0.here hexec rfl 1 (hb hbytes d26) (by decide) rfl rfl ?_
            refine XS.goto X0.here hexec rfl (pc0 := 29) rfl (hb hbytes d29) (by decide) rfl ?_
            exact Steps.refl _)
          rw [succ32] at c5
          exact ih (i + 1) (by omega) (fun j hj => by
            by_cases e : j = i
            · rw [e]; exact hv
            · exact he j (by omega)) c5
        · exact ⟨25, _, 0, Or.inl rfl, Or.inr ⟨rfl, fun q => hv (q.2 i (by omega))⟩, c4.trans (by
            refine XS.icmpNo X0.here hexec rfl (hb hbytes d21) rfl (ii_eq_f hv) ?_
            refine iconstV X0.here hexec rfl 0 (hb hbytes d24) (by decide) ?_
            exact Steps.refl _)⟩
    obtain ⟨pc, Ls, v, hpc, hv, cz⟩ := loop A.slots.size 0 (by omega) (fun j hj => absurd hj (Nat.not_lt_zero j)) c3
    have nv : narrow .boolean (.int v) = .int v := by rcases hv with ⟨rfl, -⟩ | ⟨rfl, -⟩ <;> rfl
    rcases hpc with rfl | rfl
    · exact ⟨s₁, some (.int v), _, _, _, X0, rfl, rfl, rfl, (fun h => by cases h), ⟨v, rfl, hh0, hv⟩, fun fs hl => cz.trans (X0.ireturnOut hexec hret nv (Or.inr (Or.inl rfl)) (hb hbytes d25) hl)⟩
    · exact ⟨s₁, some (.int v), _, _, _, X0, rfl, rfl, rfl, (fun h => by cases h), ⟨v, rfl, hh0, hv⟩, fun fs hl => cz.trans (X0.ireturnOut hexec hret nv (Or.inr (Or.inl rfl)) (hb hbytes d33) hl)⟩
  · have c3 : Steps p.tables e below (s₁.setTop (entryFrame m #[.ref a, .ref b] 3)) (s₁.setTop (mkF m 35 #[.val (.ref a), .val (.ref b), .unset] [.int 0])) := c2.trans (by
      refine XS.icmpYes X0.here hexec rfl (pc0 := 4) rfl (hb hbytes d4) rfl (ii_ne_t (ne32 a31 b31 hs)) (by decide) rfl ?_
      refine iconstV X0.here hexec rfl 0 (hb hbytes d34) (by decide) ?_
      exact Steps.refl _)
    exact ⟨s₁, some (.int 0), _, _, _, X0, rfl, rfl, rfl, (fun h => by cases h), ⟨0, rfl, hh0, Or.inr ⟨rfl, fun q => hs q.1⟩⟩, fun fs hl => c3.trans (X0.ireturnOut hexec hret rfl (Or.inr (Or.inl rfl)) (hb hbytes d35) hl)⟩
end LEq
theorem Cod.ty {cd : Int32} {n : Nat} {f : Nat → Int32} {V : Cell} (h : Cod cd n f V) : Typed .byte V := fun i v hv => by
  have hi : i < V.slots.size := (Array.getElem?_eq_some_iff.mp hv).1
  rcases h with ⟨-, k1, k2⟩ | ⟨-, k1, k2, -⟩
  · rw [(k2 i (by omega)).1] at hv; cases hv; exact fits_lo8 _
  · rcases Nat.mod_two_eq_zero_or_one i with e | e
    · obtain ⟨j, rfl⟩ : ∃ j, i = 2 * j := ⟨i / 2, by omega⟩
      rw [(k2 j (by omega)).1] at hv; cases hv; exact fits_lo8 _
    · obtain ⟨j, rfl⟩ : ∃ j, i = 2 * j + 1 := ⟨i / 2, by omega⟩
      rw [(k2 j (by omega)).2] at hv; cases hv; exact fits_lo8 _
/-- the same text -/
def SameT (n : Nat) (f : Nat → Int32) (k : Nat) (g : Nat → Int32) : Prop := n = k ∧ ∀ j, j < n → f j = g j
theorem lo8_inj {x y : Int32} (h0 : ¬ x < 0) (h1 : ¬ 255 < x) (k0 : ¬ y < 0) (k1 : ¬ 255 < y) (h : lo8 x = lo8 y) : x = y := by
  rw [← lo8_mask h0 h1, ← lo8_mask k0 k1, h]
/-- arrays coded by one coder are equal just where the texts are -/
theorem Cod.eqv {cd : Int32} {n k : Nat} {f g : Nat → Int32} {V V' : Cell} (h : Cod cd n f V) (h' : Cod cd k g V') (hf : ∀ j, j < n → ¬ f j < 0 ∧ ¬ 65535 < f j) (hg : ∀ j, j < k → ¬ g j < 0 ∧ ¬ 65535 < g j) : EqC V V' ↔ SameT n f k g := by
  have yvv : ∀ {W : Cell} {i : Nat} {x : Int32}, W.slots[i]? = some (.int x) → yv W i = x := fun q => by unfold yv; rw [q]
  rcases h with ⟨rfl, k1, k2⟩ | ⟨rfl, k1, k2, -⟩
  · rcases h' with ⟨-, m1, m2⟩ | ⟨e, -⟩
    · constructor
      · rintro ⟨e1, e2⟩
        refine ⟨by omega, fun j hj => ?_⟩
        have q := e2 j (by omega)
        rw [yvv (k2 j hj).1, yvv (m2 j (by omega)).1] at q
        exact lo8_inj (hf j hj).1 (k2 j hj).2 (hg j (by omega)).1 (m2 j (by omega)).2 q
      · rintro ⟨rfl, e2⟩
        refine ⟨by omega, fun j hj => ?_⟩
        rw [yvv (k2 j (by omega)).1, yvv (m2 j (by omega)).1, e2 j (by omega)]
    · exact absurd e (by decide)
  · rcases h' with ⟨e, -⟩ | ⟨-, m1, m2, -⟩
    · exact absurd e (by decide)
    · constructor
      · rintro ⟨e1, e2⟩
        refine ⟨by omega, fun j hj => ?_⟩
        have q1 := e2 (2 * j) (by omega)
        have q2 := e2 (2 * j + 1) (by omega)
        rw [yvv (k2 j hj).1, yvv (m2 j (by omega)).1] at q1
        rw [yvv (k2 j hj).2, yvv (m2 j (by omega)).2] at q2
        rw [← pair_says (hf j hj).1 (hf j hj).2, ← pair_says (hg j (by omega)).1 (hg j (by omega)).2, q1, q2]
      · rintro ⟨rfl, e2⟩
        refine ⟨by omega, fun i hi => ?_⟩
        rcases Nat.mod_two_eq_zero_or_one i with e | e
        · obtain ⟨j, rfl⟩ : ∃ j, i = 2 * j := ⟨i / 2, by omega⟩
          rw [yvv (k2 j (by omega)).1, yvv (m2 j (by omega)).1, e2 j (by omega)]
        · obtain ⟨j, rfl⟩ : ∃ j, i = 2 * j + 1 := ⟨i / 2, by omega⟩
          rw [yvv (k2 j (by omega)).2, yvv (m2 j (by omega)).2, e2 j (by omega)]
/-- two codings differ: so do the texts -/
theorem Cod.dif {cd cd' : Int32} {n k : Nat} {f g : Nat → Int32} {V V' : Cell} (h : Cod cd n f V) (h' : Cod cd' k g V') (hne : ¬ cd = cd') : ¬ SameT n f k g := by
  rintro ⟨rfl, e⟩
  rcases h with ⟨rfl, -, k2⟩ | ⟨rfl, -, -, j, hj, hw⟩
  · rcases h' with ⟨rfl, -⟩ | ⟨-, -, -, j, hj, hw⟩
    · exact hne rfl
    · exact (k2 j hj).2 (by rw [e j hj]; exact hw)
  · rcases h' with ⟨-, -, m2⟩ | ⟨rfl, -⟩
    · exact (m2 j hj).2 (by rw [← e j hj]; exact hw)
    · exact hne rfl
/-- an object of exactly C is an instance of C -/
theorem cinst {p : Program} {l : Launch} {e : Env} {R : Room} {s : State} {m : MethodId} {args : Array Value} {below : List Frame} {meth : Method} {c : Code} {T : State} {locs : List Loc} {cells slots : Nat} (X : Stand p l e R s m args below meth c T locs cells slots) (hexec : p.tables.exec = Jvm.exec) {own C : String} {index : Nat} (hown : s.vm.findClass own = some m.cls) (hlink : (Cond.classLink own index C).before args s = true) {a : Addr} (hE : Exact C a T)
    {g : JFrame} (hg : g.method = m) {rest : List Value} (hstack : g.stack = .ref a :: rest) (hdg : decode c.code g.pc = .ok (.instanceof index, 3)) :
    ∃ T', Stand p l e R s m args below meth c T' locs cells slots ∧ T'.heap = T.heap ∧ ∀ target, Steps p.tables e below (T'.setTop { g with pc := g.pc + 3, stack := .int 1 :: rest }) target → Steps p.tables e below (T.setTop g) target := by
  obtain ⟨cB, h1, D, h2, h3, h4⟩ := hE
  have h1' : s.vm.findClass C = some cB := by rw [← X.warmed.alike.findClass]; exact h1
  obtain ⟨vm', X', st⟩ := X.instanceofYes hexec hown hlink h2 h4 h1' (by rw [h3]; exact Jvm.Free.SB.assignable_self _ _) hg hstack hdg
  exact ⟨_, X', rfl, st⟩
theorem cself {p : Program} {l : Launch} {e : Env} {R : Room} {s : State} {m : MethodId} {args : Array Value} {below : List Frame} {meth : Method} {c : Code} {T : State} {locs : List Loc} {cells slots : Nat} (X : Stand p l e R s m args below meth c T locs cells slots) (hexec : p.tables.exec = Jvm.exec) {own C : String} {index : Nat} (hown : s.vm.findClass own = some m.cls) (hlink : (Cond.classLink own index C).before args s = true) {a : Addr} (hE : Exact C a T)
    {g : JFrame} (hg : g.method = m) {rest : List Value} (hstack : g.stack = .ref a :: rest) (hdg : decode c.code g.pc = .ok (.checkcast index, 3)) :
    ∃ T', Stand p l e R s m args below meth c T' locs cells slots ∧ T'.heap = T.heap ∧ ∀ target, Steps p.tables e below (T'.setTop { g with pc := g.pc + 3, stack := .ref a :: rest }) target → Steps p.tables e below (T.setTop g) target := by
  obtain ⟨cB, h1, D, h2, h3, h4⟩ := hE
  have h1' : s.vm.findClass C = some cB := by rw [← X.warmed.alike.findClass]; exact h1
  obtain ⟨vm', X', st⟩ := X.checkcastYes hexec hown hlink h2 h4 h1' (by rw [h3]; exact Jvm.Free.SB.assignable_self _ _) hg hstack hdg
  exact ⟨_, X', rfl, fun t h => st t (by rw [← hstack] at h; exact h)⟩
namespace SEq
def yN : MethodName := ⟨"java/lang/String", "equals", "(Ljava/lang/Object;)Z"⟩
abbrev yB : ByteArray := jdk_42_method_66_code
theorem d0 : decode yB 0 = .ok (.aload_n 0, 1) := by decide +kernel
theorem d1 : decode yB 1 = .ok (.aload_n 1, 1) := by decide +kernel
theorem d2 : decode yB 2 = .ok (.if_acmp (.ne) 5, 3) := by decide +kernel
theorem d5 : decode yB 5 = .ok (.iconst 1, 1) := by decide +kernel
theorem d6 : decode yB 6 = .ok (.ireturn, 1) := by decide +kernel
theorem d7 : decode yB 7 = .ok (.aload_n 1, 1) := by decide +kernel
theorem d8 : decode yB 8 = .ok (.instanceof 10, 3) := by decide +kernel
theorem d11 : decode yB 11 = .ok (.ifCond (.eq) 43, 3) := by decide +kernel
theorem d14 : decode yB 14 = .ok (.aload_n 1, 1) := by decide +kernel
theorem d15 : decode yB 15 = .ok (.checkcast 10, 3) := by decide +kernel
theorem d18 : decode yB 18 = .ok (.astore_n 2, 1) := by decide +kernel
theorem d19 : decode yB 19 = .ok (.getstatic 38, 3) := by decide +kernel
theorem d22 : decode yB 22 = .ok (.ifCond (.eq) 14, 3) := by decide +kernel
theorem d25 : decode yB 25 = .ok (.aload_n 0, 1) := by decide +kernel
theorem d26 : decode yB 26 = .ok (.getfield 15, 3) := by decide +kernel
theorem d29 : decode yB 29 = .ok (.aload_n 2, 1) := by decide +kernel
theorem d30 : decode yB 30 = .ok (.getfield 15, 3) := by decide +kernel
theorem d33 : decode yB 33 = .ok (.if_icmp (.ne) 21, 3) := by decide +kernel
theorem d36 : decode yB 36 = .ok (.aload_n 0, 1) := by decide +kernel
theorem d37 : decode yB 37 = .ok (.getfield 9, 3) := by decide +kernel
theorem d40 : decode yB 40 = .ok (.aload_n 2, 1) := by decide +kernel
theorem d41 : decode yB 41 = .ok (.getfield 9, 3) := by decide +kernel
theorem d44 : decode yB 44 = .ok (.invokestatic 541, 3) := by decide +kernel
theorem d47 : decode yB 47 = .ok (.ifCond (.eq) 7, 3) := by decide +kernel
theorem d50 : decode yB 50 = .ok (.iconst 1, 1) := by decide +kernel
theorem d51 : decode yB 51 = .ok (.goto 4, 3) := by decide +kernel
theorem d54 : decode yB 54 = .ok (.iconst 0, 1) := by decide +kernel
theorem d55 : decode yB 55 = .ok (.ireturn, 1) := by decide +kernel
def site : List Cond := [.classLink "java/lang/String" 10 "java/lang/String", .fieldLink "java/lang/String" 38 "java/lang/String" "COMPACT_STRINGS" "Z", .fieldLink "java/lang/String" 15 "java/lang/String" "coder" "B", .fieldLink "java/lang/String" 9 "java/lang/String" "value" "[B", LEq.tab] ++ staticW "java/lang/String" 541 LEq.yN
def tab : Cond := tabOf yN yB 3 (some .boolean) site
def P (x t : Addr) (V : Cell) (cd : Int32) (n : Nat) (f : Nat → Int32) (y t' : Addr) (V' : Cell) (cd' : Int32) (k : Nat) (g : Nat → Int32) (z : Int32) (args : Array Value) (s : State) : Prop := args = #[.ref x, .ref y] ∧ Txt x t V cd n f s ∧ Txt y t' V' cd' k g s ∧ StaticIs s "java/lang/String" "COMPACT_STRINGS" "Z" (.int z) ∧ ¬ z = 0
/-- equals(Object) of two Strings: whether the texts are the same -/
theorem law (l : Launch) (x t : Addr) (V : Cell) (cd : Int32) (n : Nat) (f : Nat → Int32) (y t' : Addr) (V' : Cell) (cd' : Int32) (k : Nat) (g : Nat → Int32) (z : Int32) : Law l yN 2 1 1 14 yB 3 (some .boolean) site (P x t V cd n f y t' V' cd' k g z) (Says01 (SameT n f k g)) [] 0 0 := by
  refine Law.of_walk (plainFor_of_name (by decide +kernel)) (by decide +kernel) (by decide +kernel) (by decide) (fun _ _ h => by rw [h.1]; rfl) (fun _ U U' hal hh h => ⟨h.1, h.2.1.mv hal hh, h.2.2.1.mv hal hh, h.2.2.2.1.there hal hh, h.2.2.2.2⟩) (fun r U U' V V' h1 hal h2 h => Says01.mv r U U' V V' h1 hal h2 h) ?_
  intro p e s m args below meth c s₁ X0 hexec hbytes hml hret hlk hnm hown hh0 W hP
  obtain ⟨rfl, hx, hy, s1, hz⟩ := hP
  have c1 : Steps p.tables e below (s₁.setTop (entryFrame m #[.ref x, .ref y] 3)) (s₁.setTop (mkF m 2 #[.val (.ref x), .val (.ref y), .unset] [.ref y, .ref x])) := Steps.trans (entry rfl) (by
    show Steps p.tables e below (s₁.setTop (mkF m 0 #[.val (.ref x), .val (.ref y), .unset] [])) _
    refine XS.aloadN X0.here hexec rfl (hb hbytes d0) rfl rfl ?_
    refine XS.aloadN X0.here hexec rfl (hb hbytes d1) rfl rfl ?_
    exact Steps.refl _)
  by_cases hxy : x = y
  · have c2 : Steps p.tables e below (s₁.setTop (entryFrame m #[.ref x, .ref y] 3)) (s₁.setTop (mkF m 6 #[.val (.ref x), .val (.ref y), .unset] [.int 1])) := c1.trans (by
      refine acmpNo X0.here hexec rfl (hb hbytes d2) rfl rfl rfl (by simp [acmp, hxy]) ?_
      refine iconstV X0.here hexec rfl 1 (hb hbytes d5) (by decide) ?_
      exact Steps.refl _)
    subst hxy
    have ec : cd = cd' := by
      obtain ⟨D, fd, a1, a2, a3⟩ := hx.2.2.1
      obtain ⟨D', fd', b1, b2, b3⟩ := hy.2.2.1
      cases a1.symm.trans b1
      obtain ⟨q1, q2, q3, q4⟩ := a2.1
      obtain ⟨r1, r2, r3, r4⟩ := b2.1
      cases q4.symm.trans r4
      cases a3.symm.trans b3; rfl
    have et : t = t' := by
      obtain ⟨D, fd, a1, a2, a3⟩ := hx.2.1
      obtain ⟨D', fd', b1, b2, b3⟩ := hy.2.1
      cases a1.symm.trans b1
      obtain ⟨q1, q2, q3, q4⟩ := a2.1
      obtain ⟨r1, r2, r3, r4⟩ := b2.1
      cases q4.symm.trans r4
      cases a3.symm.trans b3; rfl
    subst ec et
    have ev : V = V' := by cases hx.2.2.2.1.1.symm.trans hy.2.2.2.1.1; rfl
    subst ev
    have hs : SameT n f k g := (Cod.eqv hx.2.2.2.2.1 hy.2.2.2.2.1 hx.2.2.2.2.2 hy.2.2.2.2.2).mp ⟨rfl, fun _ _ => rfl⟩
    exact ⟨s₁, some (.int 1), _, _, _, X0, rfl, rfl, rfl, (fun h => by cases h), ⟨1, rfl, hh0, Or.inl ⟨rfl, hs⟩⟩, fun fs hl => c2.trans (X0.ireturnOut hexec hret rfl (Or.inr (Or.inl rfl)) (hb hbytes d6) hl)⟩
  · have c2 : Steps p.tables e below (s₁.setTop (entryFrame m #[.ref x, .ref y] 3)) (s₁.setTop (mkF m 8 #[.val (.ref x), .val (.ref y), .unset] [.ref y])) := c1.trans (by
      refine acmpYes X0.here hexec rfl (pc0 := 2) rfl (hb hbytes d2) rfl rfl rfl (by simp [acmp, hxy]) (by decide) rfl ?_
      refine XS.aloadN X0.here hexec rfl (hb hbytes d7) rfl rfl ?_
      exact Steps.refl _)
    obtain ⟨T3, X3, q3, st3⟩ := cinst X0 hexec hown (wk W (.classLink "java/lang/String" 10 "java/lang/String")) (hy.mv X0.warmed.alike hh0).1 (g := (mkF m 8 #[.val (.ref x), .val (.ref y), .unset] [.ref y])) rfl (rest := []) rfl (hb hbytes d8)
    have hh3 := q3.trans hh0
    have c4 : Steps p.tables e below (s₁.setTop (entryFrame m #[.ref x, .ref y] 3)) (T3.setTop (mkF m 15 #[.val (.ref x), .val (.ref y), .unset] [.ref y])) := (c2.trans (st3 _ (Steps.refl _))).trans (by
      refine XS.ifNo X3.here hexec rfl (hb hbytes d11) rfl (i0_eq_f (by decide)) ?_
      refine XS.aloadN X3.here hexec rfl (hb hbytes d14) rfl rfl ?_
      exact Steps.refl _)
    obtain ⟨T5, X5, q5, st5⟩ := cself X3 hexec hown (wk W (.classLink "java/lang/String" 10 "java/lang/String")) (hy.mv X3.warmed.alike hh3).1 (g := (mkF m 15 #[.val (.ref x), .val (.ref y), .unset] [.ref y])) rfl (rest := []) rfl (hb hbytes d15)
    have hh5 := q5.trans hh3
    have c6 : Steps p.tables e below (s₁.setTop (entryFrame m #[.ref x, .ref y] 3)) (T5.setTop (mkF m 19 #[.val (.ref x), .val (.ref y), .val (.ref y)] [])) := (c4.trans (st5 _ (Steps.refl _))).trans (by
      refine XS.astoreN X5.here hexec rfl (hb hbytes d18) rfl rfl rfl ?_
      exact Steps.refl _)
    obtain ⟨T7, X7, q7, st7⟩ := X5.sget hexec hown (wk W (.fieldLink "java/lang/String" 38 "java/lang/String" "COMPACT_STRINGS" "Z")) s1 (fun _ _ h => by rw [hh5]; exact h) (g := (mkF m 19 #[.val (.ref x), .val (.ref y), .val (.ref y)] [])) rfl (hb hbytes d19)
    have hh7 := q7.trans hh5
    have c8 : Steps p.tables e below (s₁.setTop (entryFrame m #[.ref x, .ref y] 3)) (T7.setTop (mkF m 26 #[.val (.ref x), .val (.ref y), .val (.ref y)] [.ref x])) := (c6.trans (st7 _ (Steps.refl _))).trans (by
      refine XS.ifNo X7.here hexec rfl (hb hbytes d22) rfl (i0_eq_f hz) ?_
      refine XS.aloadN X7.here hexec rfl (hb hbytes d25) rfl rfl ?_
      exact Steps.refl _)
    obtain ⟨T9, X9, q9, st9⟩ := X7.hget hexec hown (wk W (.fieldLink "java/lang/String" 15 "java/lang/String" "coder" "B")) (hx.mv X7.warmed.alike hh7).2.2.1 (g := (mkF m 26 #[.val (.ref x), .val (.ref y), .val (.ref y)] [.ref x])) rfl (rest := []) rfl (hb hbytes d26)
    have hh9 := q9.trans hh7
    have c10 : Steps p.tables e below (s₁.setTop (entryFrame m #[.ref x, .ref y] 3)) (T9.setTop (mkF m 30 #[.val (.ref x), .val (.ref y), .val (.ref y)] [.ref y, .int cd])) := (c8.trans (st9 _ (Steps.refl _))).trans (by
      refine XS.aloadN X9.here hexec rfl (hb hbytes d29) rfl rfl ?_
      exact Steps.refl _)
    obtain ⟨T11, X11, q11, st11⟩ := X9.hget hexec hown (wk W (.fieldLink "java/lang/String" 15 "java/lang/String" "coder" "B")) (hy.mv X9.warmed.alike hh9).2.2.1 (g := (mkF m 30 #[.val (.ref x), .val (.ref y), .val (.ref y)] [.ref y, .int cd])) rfl (rest := [.int cd]) rfl (hb hbytes d30)
    have hh11 := q11.trans hh9
    have c12 : Steps p.tables e below (s₁.setTop (entryFrame m #[.ref x, .ref y] 3)) (T11.setTop (mkF m 33 #[.val (.ref x), .val (.ref y), .val (.ref y)] [.int cd', .int cd])) := c10.trans (st11 _ (Steps.refl _))
    by_cases hcd : cd = cd'
    · subst hcd
      have c13 : Steps p.tables e below (s₁.setTop (entryFrame m #[.ref x, .ref y] 3)) (T11.setTop (mkF m 37 #[.val (.ref x), .val (.ref y), .val (.ref y)] [.ref x])) := c12.trans (by
        refine XS.icmpNo X11.here hexec rfl (hb hbytes d33) rfl (ii_ne_f rfl) ?_
        refine XS.aloadN X11.here hexec rfl (hb hbytes d36) rfl rfl ?_
        exact Steps.refl _)
      obtain ⟨T14, X14, q14, st14⟩ := X11.hget hexec hown (wk W (.fieldLink "java/lang/String" 9 "java/lang/String" "value" "[B")) (hx.mv X11.warmed.alike hh11).2.1 (g := (mkF m 37 #[.val (.ref x), .val (.ref y), .val (.ref y)] [.ref x])) rfl (rest := []) rfl (hb hbytes d37)
      have hh14 := q14.trans hh11
      have c15 : Steps p.tables e below (s₁.setTop (entryFrame m #[.ref x, .ref y] 3)) (T14.setTop (mkF m 41 #[.val (.ref x), .val (.ref y), .val (.ref y)] [.ref y, .ref t])) := (c13.trans (st14 _ (Steps.refl _))).trans (by
        refine XS.aloadN X14.here hexec rfl (hb hbytes d40) rfl rfl ?_
        exact Steps.refl _)
      obtain ⟨T16, X16, q16, st16⟩ := X14.hget hexec hown (wk W (.fieldLink "java/lang/String" 9 "java/lang/String" "value" "[B")) (hy.mv X14.warmed.alike hh14).2.1 (g := (mkF m 41 #[.val (.ref x), .val (.ref y), .val (.ref y)] [.ref y, .ref t])) rfl (rest := [.ref t]) rfl (hb hbytes d41)
      have hh16 := q16.trans hh14
      have c17 : Steps p.tables e below (s₁.setTop (entryFrame m #[.ref x, .ref y] 3)) (T16.setTop (mkF m 44 #[.val (.ref x), .val (.ref y), .val (.ref y)] [.ref t', .ref t])) := c15.trans (st16 _ (Steps.refl _))
      obtain ⟨v18, T18, X18, E18, g18⟩ := X16.callS hexec (LEq.law l t V t' V') hown (wks W (staticW "java/lang/String" 541 LEq.yN)) (wk W LEq.tab) (W := 0) (Nat.le_of_ble_eq_true rfl) (Nat.le_of_ble_eq_true rfl) (Nat.le_refl _) (Nat.le_refl _) (g := (mkF m 44 #[.val (.ref x), .val (.ref y), .val (.ref y)] [.ref t', .ref t])) rfl (by rw [hml]; rfl) c17 (argsL := [.ref t, .ref t']) (rest := []) rfl rfl (by show 2 * 0 + 0 ≤ _; decide) (hb hbytes d44) (⟨rfl, hx.2.2.2.1.mv X16.warmed.alike hh16, hx.2.2.2.2.1.ty, hy.2.2.2.1.mv X16.warmed.alike hh16, hy.2.2.2.2.1.ty⟩)
      obtain ⟨v, rfl, q18, hv⟩ := E18
      have iff := Cod.eqv hx.2.2.2.2.1 hy.2.2.2.2.1 hx.2.2.2.2.2 hy.2.2.2.2.2
      rcases hv with ⟨rfl, he⟩ | ⟨rfl, he⟩
      · have c19 : Steps p.tables e below (s₁.setTop (entryFrame m #[.ref x, .ref y] 3)) (T18.setTop (mkF m 55 #[.val (.ref x), .val (.ref y), .val (.ref y)] [.int 1])) := Steps.trans g18 (by
          refine XS.ifNo X18.here hexec rfl (hb hbytes d47) rfl (i0_eq_f (by decide)) ?_
          refine iconstV X18.here hexec rfl 1 (hb hbytes d50) (by decide) ?_
          refine XS.goto X18.here hexec rfl (pc0 := 51) rfl (hb hbytes d51) (by decide) rfl ?_
          exact Steps.refl _)
        exact ⟨T18, some (.int 1), _, _, _, X18, rfl, rfl, rfl, (fun h => by cases h), ⟨1, rfl, q18.trans hh16, Or.inl ⟨rfl, iff.mp he⟩⟩, fun fs hl => c19.trans (X18.ireturnOut hexec hret rfl (Or.inr (Or.inl rfl)) (hb hbytes d55) hl)⟩
      · have c19 : Steps p.tables e below (s₁.setTop (entryFrame m #[.ref x, .ref y] 3)) (T18.setTop (mkF m 55 #[.val (.ref x), .val (.ref y), .val (.ref y)] [.int 0])) := Steps.trans g18 (by
          refine XS.ifYes X18.here hexec rfl (pc0 := 47) rfl (hb hbytes d47) rfl (i0_eq_t rfl) (by decide) rfl ?_
          refine iconstV X18.here hexec rfl 0 (hb hbytes d54) (by decide) ?_
          exact Steps.refl _)
        exact ⟨T18, some (.int 0), _, _, _, X18, rfl, rfl, rfl, (fun h => by cases h), ⟨0, rfl, q18.trans hh16, Or.inr ⟨rfl, fun q => he (iff.mpr q)⟩⟩, fun fs hl => c19.trans (X18.ireturnOut hexec hret rfl (Or.inr (Or.inl rfl)) (hb hbytes d55) hl)⟩
    · have c13 : Steps p.tables e below (s₁.setTop (entryFrame m #[.ref x, .ref y] 3)) (T11.setTop (mkF m 55 #[.val (.ref x), .val (.ref y), .val (.ref y)] [.int 0])) := c12.trans (by
        refine XS.icmpYes X11.here hexec rfl (pc0 := 33) rfl (hb hbytes d33) rfl (ii_ne_t hcd) (by decide) rfl ?_
        refine iconstV X11.here hexec rfl 0 (hb hbytes d54) (by decide) ?_
        exact Steps.refl _)
      exact ⟨T11, some (.int 0), _, _, _, X11, rfl, rfl, rfl, (fun h => by cases h), ⟨0, rfl, hh11, Or.inr ⟨rfl, Cod.dif hx.2.2.2.2.1 hy.2.2.2.2.1 hcd⟩⟩, fun fs hl => c13.trans (X11.ireturnOut hexec hret rfl (Or.inr (Or.inl rfl)) (hb hbytes d55) hl)⟩
theorem pays {l : Launch} {R : Room} {p : Program} {e : Env} {below : List Frame} {s : State} {sargs : Array Value} {len W : Nat} (x t : Addr) (V : Cell) (cd : Int32) (n : Nat) (f : Nat → Int32) (y t' : Addr) (V' : Cell) (cd' : Int32) (k : Nat) (g : Nat → Int32) (z : Int32) (htab : tab.before sargs s = true) (hfr : 2 ≤ R.frames) (hlo : W + 28 ≤ R.locals) :
    Back l R p e below s sargs yN len W (fun A₁ a₁ => A₁.cells + 0 ≤ R.cells ∧ A₁.slots + 0 ≤ R.slots ∧ P x t V cd n f y t' V' cd' k g z a₁ A₁.U) (fun A₁ _ v₁ B₁ => Says01 (SameT n f k g) v₁ A₁.U B₁.U ∧ B₁.locs = A₁.locs ++ [] ∧ B₁.cells = A₁.cells + 0 ∧ B₁.slots = A₁.slots + 0) :=
  (law l x t V cd n f y t' V' cd' k g z).pays htab hfr (by omega)
end SEq
end StrChars
namespace StrChars.Road
open Jvm Sem ClassFile Op Lib Jvm.Stand Jvm.Free Jvm.Free.XT
open Jvm.Lib.Cold (StaticIs)
/-- the words of String.equals(Object) -/
abbrev wordsEq : List Jvm.Cond := [.code SEq.yN SEq.yB 3 (some .boolean), .initialized ST, .classLink ST 10 ST, .fieldLink ST 38 ST "COMPACT_STRINGS" "Z", .fieldLink ST 15 ST "coder" "B", .fieldLink ST 9 ST "value" "[B", .methodLink ST 541 LEq.yN, .static LEq.yN, .code LEq.yN LEq.yB 3 (some .boolean), .initialized "java/lang/StringLatin1"]
theorem tabEq_of {a : Array Value} {s : State} (h : ∀ w ∈ wordsEq, w.before a s = true) : SEq.tab.before a s = true := by
  have hl : LEq.tab.before a s = true := unparts (wk h (.code LEq.yN LEq.yB 3 (some .boolean))) (wks h (.initialized LEq.yN.cls :: LEq.site))
  have q := consq hl h
  exact unparts (wk q (.code SEq.yN SEq.yB 3 (some .boolean))) (wks q (.initialized SEq.yN.cls :: SEq.site))
theorem movedEq {Z s : State} {a0 args : Array Value} (hZ : Z.Warmed39 s.vm) (hw : ∀ d ∈ wordsEq, d.before a0 Z = true) : ∀ d ∈ wordsEq, d.before args s = true := fun d hd => by
  have t : ∀ d ∈ wordsEq, (d.onTables && d.keepsFace) = true := by decide +kernel
  exact RoadKit.mv hZ (hw d hd) (t d hd)
/-- the road's facts of a String, as the laws ask it -/
theorem txt_of {Z U : State} {a0 : Array Value} {kI : Nat} (wi : (Jvm.Cond.instantiable ST kI).before a0 Z = true) (al : Z.vm.Alike U.vm) {x t : Addr} {kb : ClassId} {cs : List Int32} {cd N2 : Int32} {vs : List Value} (E : RoadKit.Exa Z U.heap x ST) (V : RoadKit.Fld Z U.heap x ST "value" "[B" (.ref t)) (C : RoadKit.Fld Z U.heap x ST "coder" "B" (.int cd)) (K : RoadKit.Arv Z U.heap t kb .byte N2 vs (.int 0)) (hc : CodA cs cd N2 vs) (hb : ∀ c ∈ cs, ¬ c < 0 ∧ ¬ (65535 : Int32) < c) (l2 : cs.length ≤ 4000) :
    ∃ A, Txt x t A cd cs.length (fun j => cs.getD j 0) U := by
  obtain ⟨A, K1, K2, K3, K4, K5, K6⟩ := K
  have hcod := hc.cod (by omega) K3 K5
  obtain ⟨D, fV, fC, hB, F1, F2, g1, g2, -, -⟩ := strObj wi al E V C
  exact ⟨A, ⟨_, hB.2.2.1, D, hB.1, rfl, by cases q : D.vm <;> first | rfl | exact absurd q (hB.2.1.2 _)⟩, Has.of hB F1 g1, Has.of hB F2 g2, ⟨K1.1, State.isArrayOf_alike al K1.2.1, K1.2.2, by rcases hcod with ⟨-, q, -⟩ | ⟨-, q, -⟩ <;> omega⟩, hcod, fun j hj => by
    have e : cs.getD j 0 = cs[j] := by simp [List.getD_eq_getElem?_getD, hj]
    show ¬ cs.getD j 0 < 0 ∧ ¬ 65535 < cs.getD j 0
    rw [e]; exact hb _ (List.getElem_mem _)⟩
theorem same_list (cs ds : List Int32) : SameT cs.length (fun j => cs.getD j 0) ds.length (fun j => ds.getD j 0) ↔ cs = ds := by
  constructor
  · rintro ⟨e, q⟩
    refine List.ext_getElem e fun j h1 h2 => ?_
    have := q j h1
    simpa [List.getD_eq_getElem?_getD, h1, h2] using this
  · rintro rfl
    exact ⟨rfl, fun _ _ => rfl⟩
/-- **equals(Object) OF TWO SUCH STRINGS**: 1 just where the chars are the same -/
theorem eqW {p : Program} {l : Launch} {e : Env} {R : Room} {s : State} {args : Array Value} {below : List Frame} {len W : Nat} {Z : State} {a0 : Array Value} {h : Heap} (hZ : Z.Warmed39 s.vm) (hw : ∀ d ∈ wordsEq, d.before a0 Z = true) {kI : Nat} (wi : (Jvm.Cond.instantiable ST kI).before a0 Z = true)
    {x t : Addr} {kb : ClassId} {cs : List Int32} {cd N2 : Int32} {vs : List Value} (E : RoadKit.Exa Z h x ST) (V : RoadKit.Fld Z h x ST "value" "[B" (.ref t)) (C : RoadKit.Fld Z h x ST "coder" "B" (.int cd)) (K : RoadKit.Arv Z h t kb .byte N2 vs (.int 0)) (hc : CodA cs cd N2 vs) (hb : ∀ c ∈ cs, ¬ c < 0 ∧ ¬ (65535 : Int32) < c) (l2 : cs.length ≤ 4000)
    {y t' : Addr} {kb' : ClassId} {ds : List Int32} {cd' N2' : Int32} {vs' : List Value} (E' : RoadKit.Exa Z h y ST) (V' : RoadKit.Fld Z h y ST "value" "[B" (.ref t')) (C' : RoadKit.Fld Z h y ST "coder" "B" (.int cd')) (K' : RoadKit.Arv Z h t' kb' .byte N2' vs' (.int 0)) (hc' : CodA ds cd' N2' vs') (hb' : ∀ c ∈ ds, ¬ c < 0 ∧ ¬ (65535 : Int32) < c) (l2' : ds.length ≤ 4000)
    {z : Int32} (S : RoadKit.Sta Z h ST "COMPACT_STRINGS" "Z" (.int z)) (hz : ¬ z = 0) (hfr : 2 ≤ R.frames) (hlo : W + 28 ≤ R.locals) :
    Back l R p e below s args (⟨"java/lang/String", "equals", "(Ljava/lang/Object;)Z"⟩ : MethodName) len W (fun P a => a = #[.ref x, .ref y] ∧ P.U.heap = h ∧ P.cells + 0 ≤ R.cells ∧ P.slots + 0 ≤ R.slots)
      (fun P _ v B => ∃ L, (((v = some (.int 1) ∧ cs = ds) ∨ (v = some (.int 0) ∧ ¬ cs = ds)) ∧ L = [] ∧ B.U.heap = h) ∧ B.locs = P.locs ++ L ∧ B.cells = P.cells + 0 ∧ B.slots = P.slots + 0) := by
  intro m meth c P g ig mk a X hg hsize hdg hW hn hp'
  obtain ⟨rfl, rfl, r1, r2⟩ := hp'
  have al : Z.vm.Alike P.U.vm := hZ.alike.trans X.warmed.alike
  obtain ⟨A, hx⟩ := txt_of wi al E V C K hc hb l2
  obtain ⟨A', hy⟩ := txt_of wi al E' V' C' K' hc' hb' l2'
  obtain ⟨v, B, X', ⟨⟨w, hv, hh, hq⟩, hl, hk, hs⟩, st⟩ := SEq.pays x t A cd cs.length (fun j => cs.getD j 0) y t' A' cd' ds.length (fun j => ds.getD j 0) z (tabEq_of (movedEq hZ hw)) hfr hlo m meth c P g ig mk _ X hg hsize hdg hW hn ⟨r1, r2, rfl, hx, hy, sta_is al S, hz⟩
  refine ⟨v, B, X', ⟨[], ⟨?_, rfl, hh⟩, hl, hk, hs⟩, st⟩
  rcases hq with ⟨rfl, q⟩ | ⟨rfl, q⟩
  · exact Or.inl ⟨hv, (same_list cs ds).mp q⟩
  · exact Or.inr ⟨hv, fun e => q ((same_list cs ds).mpr e)⟩
end StrChars.Road
namespace StrChars.Road
open Jvm Sem ClassFile Op Lib Jvm.Stand Jvm.Free Jvm.Free.XT
open Jvm.Lib.Cold (StaticIs)
/-- what backV says of its String, as the contracts of this text ask it: cs's low bytes, coder 0 -/
theorem codOf {cs : List Int32} {n : Nat} (hn : cs.length = n) (hb : ∀ c ∈ cs, ¬ 255 < c) : CodA cs 0 (Int32.ofNat n) ((cs.map lo8).map Value.int) := Or.inl ⟨rfl, by rw [hn], by simp [List.map_map, Function.comp_def], hb⟩
end StrChars.Road
end Jvm.Pilot.@@N@@
namespace Jvm.Pilot.@@N@@
open Jvm Jvm.ClassFile Sem Op Lib Jvm.Free Jvm.Stand Jvm.LawKit Jvm.RoadKit Bundle Jvm.Pilot.@@N@@.Jvm.D
section Own
variable {p : Program} {l : Launch} {e : Env} {R : Room} {s : State} {m : MethodId} {args : Array Value} {below : List Frame} {meth : Method} {c : Code} {T T' : State} {locs : List Loc} {cells slots : Nat} {G : Outcome → State → Prop} {g g' : JFrame}
/-- from here the walk ends, and ends as G says -/
def OwnGoes (p : Program) (e : Env) (below : List Frame) (G : Outcome → State → Prop) (T : State) (g : JFrame) : Prop := ∃ s₂ o, Steps p.tables e below (T.setTop g) s₂ ∧ s₂.status = .running ∧ Ended s₂ below o ∧ G o s₂
theorem OwnGoes.step (h : ∀ t, Steps p.tables e below (T'.setTop g') t → Steps p.tables e below (T.setTop g) t) (k : OwnGoes p e below G T' g') : OwnGoes p e below G T g := by
  obtain ⟨s2, o, h1, r⟩ := k
  exact ⟨s2, o, h _ h1, r⟩
theorem OwnGoes.tr (h : Steps p.tables e below (T.setTop g) (T'.setTop g')) (k : OwnGoes p e below G T' g') : OwnGoes p e below G T g := by
  obtain ⟨s2, o, h1, r⟩ := k
  exact ⟨s2, o, h.trans h1, r⟩
theorem own_leave (X : Stand p l e R s m args below meth c T locs cells slots) (hlk : meth.locks = false) {v : Option Value} (hv : meth.sig.returnType = none → v = none)
    (hret : ∀ fs, (∀ (f : JFrame) (acts : List Action), f.method = m → f.locked = none → f.entered = [] → (doReturn e (T.setTop f) acts v).1 = T.setFrames fs) → Steps p.tables e below (T.setTop g) (T.setFrames fs))
    {k n : Nat} (hc : cells ≤ k) (hs : slots ≤ n) {Q : Option Value → Heap → List Loc → Prop} (hQ : Q v T.heap locs) :
    OwnGoes p e below (fun o U' => ∃ v L, o = .returned v ∧ Q v U'.heap L ∧ FrameEnd s o U' L k n) T g := by
  obtain ⟨fs, hr, hrun, hended, hW, hsame⟩ := X.leave (v := v) hv hlk
  exact ⟨_, _, hret fs hr, hrun, hended, v, locs, rfl, hQ, ⟨_, rfl⟩, hW, hsame.mono hc hs⟩
theorem own_leaveW {Z : State} {EL : List (String × Nat)} {vm1 : Vm} (X : Stand p l e R (s.setVm vm1) m args below meth c T locs cells slots) {n1 : Nat} (hS : s.Since vm1 n1) (hn : n1 ≤ T.heap.size) (hlk : meth.locks = false) {v : Option Value} (hv : meth.sig.returnType = none → v = none)
    (hret : ∀ fs, (∀ (f : JFrame) (acts : List Action), f.method = m → f.locked = none → f.entered = [] → (doReturn e (T.setTop f) acts v).1 = T.setFrames fs) → Steps p.tables e below (T.setTop g) (T.setFrames fs))
    {k n : Nat} (hc : cells ≤ k) (hs : slots ≤ n) {Q : Option Value → Heap → List Loc → Prop} (hR : CHr Z EL s.vm s.heap T.vm T.heap) (hQ : Q v T.heap locs) :
    OwnGoes p e below (fun o U' => ∃ v L, o = .returned v ∧ Q v U'.heap L ∧ CHr Z EL s.vm s.heap U'.vm U'.heap ∧ ReturnedEndW s o U' L k n) T g := by
  obtain ⟨fs, hr, hrun, hended, a1, a2, a3, a4⟩ := X.leaveW hS hn (v := v) hv hlk
  exact ⟨_, _, hret fs hr, hrun, hended, v, locs, rfl, hQ, hR, a1, a2, a3, a4.mono hc hs⟩
theorem own_arv_ty {Z : State} {h : Heap} {a b : Addr} {k k' : ClassId} {ty ty' : FieldType} {n n' : Int32} {vs vs' : List Value} {d d' : Value} (A : Arv Z h a k ty n vs d) (B : Arv Z h b k' ty' n' vs' d') (q : ty ≠ ty') : a ≠ b := fun e => by
  subst e
  obtain ⟨c1, ⟨a1, ⟨-, k1, a2, c1', a3⟩, -⟩, -⟩ := A
  obtain ⟨c2, ⟨b1, ⟨-, k2, b2, c2', b3⟩, -⟩, -⟩ := B
  cases a1.symm.trans b1
  cases a2.symm.trans b2
  have := a3.symm.trans b3
  injection this with _ e
  exact q e
theorem own_nar2_char (x : Int32) : nar .char (nar .char x) = nar .char x := by simp only [nar, UInt32.toUInt32_toInt32, UInt16.toUInt16_toUInt32]
theorem own_nar2_byte (x : Int32) : nar .byte (nar .byte x) = nar .byte x := by simp [nar]
theorem own_nar2_boolean (x : Int32) : nar .boolean (nar .boolean x) = nar .boolean x := by simp [nar, Int32.and_assoc]
theorem own_toInt32_lt (x y : Int32) : x < y ↔ x.toInt < y.toInt := Int32.lt_iff_toInt_lt
theorem own_lat255 (x : Int32) : ¬ nar .char (x &&& (255 : Int32)) < 0 ∧ ¬ (255 : Int32) < nar .char (x &&& (255 : Int32)) := by
  have t : ∀ k : Fin 256, ¬ nar .char (Int32.ofNat k.val) < 0 ∧ ¬ (255 : Int32) < nar .char (Int32.ofNat k.val) := by decide +kernel
  have h : (x &&& 255).toBitVec.toNat < 256 := by
    simp only [Int32.toBitVec_and, BitVec.toNat_and]
    exact Nat.lt_succ_of_le Nat.and_le_right
  have e : (x &&& 255) = Int32.ofNat (x &&& 255).toBitVec.toNat := by
    apply Int32.toBitVec_inj.mp
    show _ = BitVec.ofNat 32 _
    rw [BitVec.ofNat_toNat]; simp
  rw [e]
  exact t ⟨_, h⟩
theorem own_nar_lat {x : Int32} (h : ¬ x < 0 ∧ ¬ (255 : Int32) < x) : nar .char x = x := by
  have h1 : ∀ k : Fin 256, nar .char (Int32.ofNat k.val) = Int32.ofNat k.val := by decide +kernel
  obtain ⟨a, b⟩ := h
  rw [Int32.lt_iff_toInt_lt] at a b
  have e1 : (0 : Int32).toInt = 0 := rfl
  have e2 : (255 : Int32).toInt = 255 := rfl
  have e : x = Int32.ofNat x.toInt.toNat := by
    apply Int32.toInt_inj.mp
    rw [Int32.toInt_ofNat_of_lt (by omega)]
    omega
  rw [e]
  exact h1 ⟨x.toInt.toNat, by omega⟩
theorem own_up (cs : List Int32) (h : ∀ c ∈ cs, ¬ c < 0 ∧ ¬ (255 : Int32) < c) : ∀ c ∈ cs, ¬ c < 0 ∧ ¬ (65535 : Int32) < c := fun c hc => ⟨(h c hc).1, fun q => (h c hc).2 (by rw [Int32.lt_iff_toInt_lt] at q ⊢; have e1 : (65535 : Int32).toInt = 65535 := rfl; have e2 : (255 : Int32).toInt = 255 := rfl; omega)⟩
end Own
theorem own_mk {s : State} {vm1 : Vm} {n : Nat} (hS : s.Since vm1 n) (h : s.vm.MethodsKnown) : vm1.MethodsKnown := Vm.MethodsKnown.alikeC hS.1.alike h
theorem own_fk {s : State} {vm1 : Vm} {n : Nat} {fs : List Frame} (hS : s.Since vm1 n) (h : s.vm.FramesKnown fs) : vm1.FramesKnown fs := Vm.FramesKnown.alikeC hS.1.alike h
theorem own_ths {Z : State} {n0 : Nat} {h : Heap} (O : Old Z n0 h) : ThS Z h := fun st k cl cell _ _ _ q _ => O.2.2 st cell q
theorem own_mem0 {P : Int32 → Prop} : ∀ c ∈ ([] : List Int32), P c := fun _ h => nomatch h
theorem own_memS {P : Int32 → Prop} {x : Int32} {L : List Int32} (h : P x) (r : ∀ c ∈ L, P c) : ∀ c ∈ x :: L, P c := fun c q => by
  rcases List.mem_cons.mp q with rfl | q
  · exact h
  · exact r c q
theorem own_safe_null {Z : State} {EL : List (String × Nat)} {vm : Vm} {h : Heap} {a : Addr} {a0 : Array Value} {n : Nat} (hal : Z.vm.Alike vm) (wi : (Jvm.Cond.instantiable "java/lang/String" n).before a0 Z = true) (E : Exa Z h a "java/lang/String") (F : Fld Z h a "java/lang/String" "value" "[B" .null) : Safe Z EL vm h a := fun B => by
  obtain ⟨cell, k, e1, e2, e3, -, -⟩ := E
  obtain ⟨p, -, u, b, -, q, -, G, rfl | rfl⟩ := B
  · obtain ⟨cS, ⟨⟨s1, -, -, ⟨cv, kv, iv, s4, -⟩, -, -, -, s8, -⟩, -⟩, -⟩ := G
    obtain ⟨c2, cf, k2, i2, f2, g1, g2, -, -, -, -, g7⟩ := F
    obtain ⟨kv', z4⟩ := ff_back (U := Wst Z vm h) hal s4
    cases g2.symm.trans z4
    cases (show h[q.sa]? = some q.sC from s1).symm.trans g1
    rw [s8] at g7
    cases g7
  · have hd : h[q.sd]? = some q.SA := G.hd
    cases hd.symm.trans e1
    obtain ⟨cS, -, -, f, -⟩ := G
    have f' : vm.findClass "[B" = some q.SA.cls := f
    rw [hal.findClass] at f'
    obtain ⟨k1, q1, q2⟩ := Vm.findClass_spec f'
    obtain ⟨k2, q3, q4⟩ := Vm.findClass_spec e2
    cases q1.symm.trans q3
    exact absurd (q2.symm.trans q4) (by decide)
theorem own_ins_keep {Z : State} {h h' : Heap} {a : Addr} {C : String} {ws : List Addr} (F : Ins Z h a C true) (K : Keep h h' ws) : Ins Z h' a C true := by
  obtain ⟨c, cT, h1, h2, h3⟩ := F
  obtain ⟨c', q1, q2, q3, -⟩ := K.2.2 _ _ h1
  exact ⟨c', cT, q1, h2, by rw [q2, q3]; exact h3⟩
/-- the bytes vs (N of them, coder cd) spell the chars cs -/
def OwnStr (cs : List Int32) (cd N : Int32) (vs : List Value) : Prop := StrChars.Road.CodA cs cd N vs ∧ (∀ c ∈ cs, ¬ c < 0 ∧ ¬ (65535 : Int32) < c) ∧ cs.length ≤ 4000
theorem own_str_lat {cs : List Int32} {n : Nat} (hn : cs.length = n) (l2 : n ≤ 4000) (h : ∀ c ∈ cs, ¬ c < 0 ∧ ¬ (255 : Int32) < c) : OwnStr cs 0 (Int32.ofNat n) ((cs.map (fun c => c.toInt8.toInt32)).map Value.int) := ⟨StrChars.Road.codOf hn (fun x hx => (h x hx).2), own_up _ h, by omega⟩

theorem own_arv0 {s : State} {args : Array Value} {t : Term} {a : Addr} {ty : FieldType} (hf : Fit s) (ev : t.eval args s none [] s = some (.ref a)) (h1 : (Cond.arrayOf t ty).value args s none s [] = some true) (h2 : (Cond.eq (Term.length t) (Term.int (0 : Int32))).value args s none s [] = some true) {d : Value} : ∃ k, Arv s s.heap a k ty (0 : Int32) [] d := by
  obtain ⟨cl, A⟩ := Arr.start ev h1
  have hs : cl.slots.size = 0 := by
    have hp := A.plain
    have h0 : s.arrayAt? a = some cl := by
      obtain ⟨-, k, hk, comp, hkind⟩ := A.2.1
      simp [State.arrayAt?, A.1, hk, hkind, hp, A.2.2]
    simp [Cond.value, Term.eval, ev, h0] at h2
    by_cases hb : cl.slots.size < 2147483648
    · simp only [hb, if_true] at h2
      have h3 : cl.slots.size.toInt32 = 0 := by simpa using h2
      have h4 := congrArg Int32.toInt h3
      rw [show (cl.slots.size.toInt32).toInt = (cl.slots.size : Int) from Int32.toInt_ofNat_of_lt (by omega)] at h4
      have e0 : (0 : Int32).toInt = 0 := rfl
      omega
    · simp [hb] at h2
  exact ⟨_, Arv.start (z := 0) hf A (by omega) (by rw [hs]; rfl) (by decide) rfl trivial⟩
theorem own_fld_null {s : State} {args : Array Value} {t : Term} {a : Addr} {C n d : String} (ev : t.eval args s none [] s = some (.ref a)) (h : (Cond.eq (Term.field t C n d) Term.null).value args s none s [] = some true) : Fld s s.heap a C n d .null := by
  simp [Cond.value, Term.eval, ev] at h
  refine Fld.start ?_
  cases hq : s.fieldOf? a C n d with
  | none => simp [hq] at h
  | some v => cases v <;> simp [hq] at h ⊢

theorem ef_si6e (m : MethodId) (x0 : Addr) (x1 : Addr) : entryFrame m #[(.ref x0), (.ref x1), (.int (0 : Int32)), (.int (0 : Int32)), .null] 6 = mkF m 0 #[.val (.ref x0), .val (.ref x1), .val (.int (0 : Int32)), .val (.int (0 : Int32)), .val .null, .unset] [] := by first | (simp [entryFrame, mkF, argsToLocals, Value.category]; done) | rfl
def Q_si6e (Z : State) (a1 : Addr) (b1 : Addr) (h0 : Heap) (n0 : Nat) (v : Option Value) (h : Heap) (L : List Loc) : Prop := ∃ (t : Addr), ∃ (k : ClassId), v = none ∧ Fr n0 L ∧ Keep h0 h ([a1] : List Addr) ∧ Exa Z h a1 "java/lang/String" ∧ Fld Z h a1 "java/lang/String" "value" "[B" (.ref t) ∧ Fld Z h a1 "java/lang/String" "coder" "B" (.int (0 : Int32)) ∧ Arv Z h t k .byte (0 : Int32) [] (.int (0 : Int32))
theorem pn_52039224 : plainName "java/lang/String" = true := by first | (simp [plainName, overriddenIn]; done) | decide +kernel
theorem dd_jdk_42_method_149_0 : decode jdk_42_method_149_code 0 = .ok (.aload_n 0, 1) := by decide +kernel
theorem dd_jdk_42_method_149_1 : decode jdk_42_method_149_code 1 = .ok (.invokespecial 1, 3) := by decide +kernel
theorem dd_jdk_42_method_149_4 : decode jdk_42_method_149_code 4 = .ok (.iload_n 3, 1) := by decide +kernel
theorem dd_jdk_42_method_149_5 : decode jdk_42_method_149_code 5 = .ok (.ifCond .ne 22, 3) := by decide +kernel
theorem dd_jdk_42_method_149_8 : decode jdk_42_method_149_code 8 = .ok (.aload_n 0, 1) := by decide +kernel
theorem dd_jdk_42_method_149_9 : decode jdk_42_method_149_code 9 = .ok (.ldc 7, 2) := by decide +kernel
theorem dd_jdk_42_method_149_11 : decode jdk_42_method_149_code 11 = .ok (.getfield 9, 3) := by decide +kernel
theorem dd_jdk_42_method_149_14 : decode jdk_42_method_149_code 14 = .ok (.putfield 9, 3) := by decide +kernel
theorem dd_jdk_42_method_149_17 : decode jdk_42_method_149_code 17 = .ok (.aload_n 0, 1) := by decide +kernel
theorem dd_jdk_42_method_149_18 : decode jdk_42_method_149_code 18 = .ok (.ldc 7, 2) := by decide +kernel
theorem dd_jdk_42_method_149_20 : decode jdk_42_method_149_code 20 = .ok (.getfield 15, 3) := by decide +kernel
theorem dd_jdk_42_method_149_23 : decode jdk_42_method_149_code 23 = .ok (.putfield 15, 3) := by decide +kernel
theorem dd_jdk_42_method_149_26 : decode jdk_42_method_149_code 26 = .ok (.return_, 1) := by decide +kernel
set_option maxRecDepth 65536 in
set_option maxHeartbeats 40000000 in
theorem rm_si6e (l : Launch) (Z : State) (a0 : Array Value) (hw : ∀ d ∈ tables_1, d.before a0 Z = true) (ws : List Jvm.Cond) (wG1 : Int32) (wO2 : Sta Z Z.heap "java/lang/String" "COMPACT_STRINGS" "Z" (.int wG1)) (wP5 : ¬ (wG1 = (0 : Int32))) (wG3 : Value) (wO4 : Sta Z Z.heap "jdk/internal/util/Preconditions" "SIOOBE_FORMATTER" "Ljava/util/function/BiFunction;" wG3) (wrG3 : wG3.isRef = true) (hstr : ∀ a ∈ Bundle.stringAtoms, a.before a0 Z = true) (wG5 : Addr) (wK5 : ClassId) (wO5 : Sta Z Z.heap "java/util/ArrayList" "DEFAULTCAPACITY_EMPTY_ELEMENTDATA" "[Ljava/lang/Object;" (.ref wG5)) (wV5 : Arv Z Z.heap wG5 wK5 (.object "java/lang/Object") (0 : Int32) [] .null) (wG6 : Addr) (wO6 : Sta Z Z.heap "java/util/Optional" "EMPTY" "Ljava/util/Optional;" (.ref wG6)) (wE6 : Exa Z Z.heap wG6 "java/util/Optional") (wF6 : Fld Z Z.heap wG6 "java/util/Optional" "value" "Ljava/lang/Object;" .null) (hEL : EW Z a0 consts_1) (h0 : Heap) (n0 : Nat) (X00 : Old Z n0 h0) (a1 : Addr) (b1 : Addr) (f0 : Exa Z h0 a1 "java/lang/String") (f1 : Fld Z h0 a1 "java/lang/String" "value" "[B" .null) (f2 : Fld Z h0 a1 "java/lang/String" "coder" "B" (.int (0 : Int32))) (f3 : n0 ≤ a1) :
    MetFree l (⟨"java/lang/String", "<init>", "([CIILjava/lang/Void;)V"⟩ : MethodName) (head1 (Jvm.Cond.code (⟨"java/lang/String", "<init>", "([CIILjava/lang/Void;)V"⟩ : MethodName) jdk_42_method_149_code 6 none :: ws) ({ frames := 1, cells := 4, slots := 8, locals := 12 } : Room)) (fun a U => a = #[(.ref a1), (.ref b1), (.int (0 : Int32)), (.int (0 : Int32)), .null] ∧ Z.Warmed39 U.vm ∧ U.heap = h0 ∧ CHv Z consts_1 U.vm h0) (fun _ _ _ _ _ => True) (fun _ U o U' => ∃ v L, o = .returned v ∧ Q_si6e Z a1 b1 h0 n0 v U'.heap L ∧ CHr Z consts_1 U.vm U.heap U'.vm U'.heap ∧ ReturnedEndW U o U' L ({ frames := 1, cells := 4, slots := 8, locals := 12 } : Room).cells ({ frames := 1, cells := 4, slots := 8, locals := 12 } : Room).slots) := by
  refine MetFree.of_bodySF (plainFor_of_name pn_52039224) hisR ?_
  intro p e s m args below meth c s₁ Bd hml0 hP hK
  obtain ⟨rfl, hZ, hh, hH⟩ := hP
  have hx := Bd.exec
  have hby := Bd.bytes
  have hlk := Bd.notSynchronized
  have hml : c.maxLocals = 6 := hml0
  have hown : s.vm.findClass "java/lang/String" = some m.cls := findClass_of_methodNamed Bd.named
  have hnm := (name_of_methodNamed Bd.named Bd.method).1
  have X0 : Stand p l e ({ frames := 1, cells := 4, slots := 8, locals := 12 } : Room) (s.setVm s.vm) m #[(.ref a1), (.ref b1), (.int (0 : Int32)), (.int (0 : Int32)), .null] below meth c s₁ [] 0 0 := Stand.of_body Bd
  have e0 : s₁.heap = h0 := by rw [← hh, Bd.state]; rfl
  have N0 := Fr.nil n0
  have Z0 : n0 ≤ h0.size := X00.1 ▸ X00.2.1
  have K0 : Keep h0 h0 ([a1] : List Addr) := Keep.refl _ _
  have R0 : CHr Z consts_1 s.vm h0 s.vm h0 := CHr.refl hH
  have hS0 : s.Since s.vm h0.size := State.WarmedH.since (State.WarmedH.refl s) _
  have hk0 : h0.size ≤ h0.size := Nat.le_refl _
  have Sf0_a1 : Safe Z consts_1 s.vm h0 a1 := (own_safe_null (vm := s.vm) hZ.alike (hw _ (List.mem_of_getElem? (i := 5) rfl)) f0 f1)
  show OwnGoes p e below (fun o U' => ∃ v L, o = .returned v ∧ Q_si6e Z a1 b1 h0 n0 v U'.heap L ∧ CHr Z consts_1 s.vm s.heap U'.vm U'.heap ∧ ReturnedEndW s o U' L ({ frames := 1, cells := 4, slots := 8, locals := 12 } : Room).cells ({ frames := 1, cells := 4, slots := 8, locals := 12 } : Room).slots) s₁ (entryFrame m #[(.ref a1), (.ref b1), (.int (0 : Int32)), (.int (0 : Int32)), .null] 6)
  refine OwnGoes.step (T' := s₁) (g' := (mkF m 0 #[.val (.ref a1), .val (.ref b1), .val (.int (0 : Int32)), .val (.int (0 : Int32)), .val .null, .unset] [])) (fun tgt kgo => castTop (ef_si6e m a1 b1) kgo) ?_
  refine OwnGoes.step (T' := s₁) (g' := (mkF m 1 #[.val (.ref a1), .val (.ref b1), .val (.int (0 : Int32)), .val (.int (0 : Int32)), .val .null, .unset] [(.ref a1)])) (fun tgt kgo => ?_) ?_
  · show Steps p.tables e below (s₁.setTop (mkF m 0 #[.val (.ref a1), .val (.ref b1), .val (.int (0 : Int32)), .val (.int (0 : Int32)), .val .null, .unset] [])) tgt
    refine XS.aloadN X0.here hx rfl (hb hby dd_jdk_42_method_149_0) rfl rfl ?_
    exact kgo
  obtain ⟨T1, X1, e1, st1⟩ := initO X0 hx hZ hown (hw _ (List.mem_of_getElem? (i := 15) rfl)) (hw _ (List.mem_of_getElem? (i := 16) rfl)) (hw _ (List.mem_of_getElem? (i := 17) rfl)) e0 (g := (mkF m 1 #[.val (.ref a1), .val (.ref b1), .val (.int (0 : Int32)), .val (.int (0 : Int32)), .val .null, .unset] [(.ref a1)])) rfl (by rw [hml]; rfl) rfl (hb hby dd_jdk_42_method_149_1) (by decide) (W := 0) (by show 2 * 0 + _ ≤ _; exact Nat.le_of_eq rfl) (by decide)
  refine OwnGoes.step (T' := T1) (g' := (mkF m 4 #[.val (.ref a1), .val (.ref b1), .val (.int (0 : Int32)), .val (.int (0 : Int32)), .val .null, .unset] [])) st1 ?_
  refine OwnGoes.step (T' := T1) (g' := (mkF m 9 #[.val (.ref a1), .val (.ref b1), .val (.int (0 : Int32)), .val (.int (0 : Int32)), .val .null, .unset] [(.ref a1)])) (fun tgt kgo => ?_) ?_
  · show Steps p.tables e below (T1.setTop (mkF m 4 #[.val (.ref a1), .val (.ref b1), .val (.int (0 : Int32)), .val (.int (0 : Int32)), .val .null, .unset] [])) tgt
    refine XS.iloadN X1.here hx rfl (hb hby dd_jdk_42_method_149_4) rfl ?_
    show Steps p.tables e below (T1.setTop (mkF m 5 #[.val (.ref a1), .val (.ref b1), .val (.int (0 : Int32)), .val (.int (0 : Int32)), .val .null, .unset] [(.int (0 : Int32))])) tgt
    refine XS.ifNo X1.here hx rfl (hb hby dd_jdk_42_method_149_5) rfl ((if0 _ _).trans (teq (by decide : (0 : Int32) = (0 : Int32))).2) ?_
    show Steps p.tables e below (T1.setTop (mkF m 8 #[.val (.ref a1), .val (.ref b1), .val (.int (0 : Int32)), .val (.int (0 : Int32)), .val .null, .unset] [])) tgt
    refine XS.aloadN X1.here hx rfl (hb hby dd_jdk_42_method_149_8) rfl rfl ?_
    exact kgo
  obtain ⟨b2, T2, h2, kk2, t2, k2, X2, e2, E2, hS2, hk2, hZ2, ho2, A2, Fc2, Fv2, V2, lt2, lu2, Rc2, Lt2, ns2, st2⟩ := ldcCH X1 hx hZ hown (hw _ (List.mem_of_getElem? (i := 18) rfl)) hstr e1 hS0 hk0 hEL (by decide) R0.1 (vs := []) (z := (0 : Int32)) (by decide +kernel) (by decide) (by decide +kernel) (g := (mkF m 9 #[.val (.ref a1), .val (.ref b1), .val (.int (0 : Int32)), .val (.int (0 : Int32)), .val .null, .unset] [(.ref a1)])) rfl (hb hby dd_jdk_42_method_149_9) (n := 0) (by decide) (by decide) (by decide) (by decide)
  refine OwnGoes.step (T' := T2) (g' := (mkF m 11 #[.val (.ref a1), .val (.ref b1), .val (.int (0 : Int32)), .val (.int (0 : Int32)), .val .null, .unset] [(.ref b2), (.ref a1)])) st2 ?_
  have F2_1 := f0.ext E2
  have F2_2 := f1.ext E2
  have F2_3 := f2.ext E2
  have F2_4 := Rc2.safe f0.lt Sf0_a1
  have Ol2 := X00.ext E2
  have K2 : Keep h0 h2 ([a1] : List Addr) := K0.ext E2
  have R2 := R0.trans Rc2
  have nl2_a1 := ns2 _ F2_4
  obtain ⟨T3, X3, e3, st3⟩ := getF X2 hx hZ2 ho2 (host := "") (Or.inl (hw _ (List.mem_of_getElem? (i := 24) rfl))) Via.refl e2 Fv2 (g := (mkF m 11 #[.val (.ref a1), .val (.ref b1), .val (.int (0 : Int32)), .val (.int (0 : Int32)), .val .null, .unset] [(.ref b2), (.ref a1)])) rfl rfl (hb hby dd_jdk_42_method_149_11)
  refine OwnGoes.step (T' := T3) (g' := (mkF m 14 #[.val (.ref a1), .val (.ref b1), .val (.int (0 : Int32)), .val (.int (0 : Int32)), .val .null, .unset] [(.ref t2), (.ref a1)])) st3 ?_
  obtain ⟨T4, h4, X4, e4, W4, st4⟩ := putF X3 hx hZ2 ho2 (host := "") (Or.inl (hw _ (List.mem_of_getElem? (i := 24) rfl))) Via.refl e3 F2_2 F2_1 (Or.inr ⟨(hw _ (List.mem_of_getElem? (i := 20) rfl)), rfl, hnm⟩) (hw _ (List.mem_of_getElem? (i := 5) rfl)) (ty := (.array .byte)) (by decide) rfl rfl (g := (mkF m 14 #[.val (.ref a1), .val (.ref b1), .val (.int (0 : Int32)), .val (.int (0 : Int32)), .val .null, .unset] [(.ref t2), (.ref a1)])) rfl rfl (hb hby dd_jdk_42_method_149_14)
  refine OwnGoes.step (T' := T4) (g' := (mkF m 17 #[.val (.ref a1), .val (.ref b1), .val (.int (0 : Int32)), .val (.int (0 : Int32)), .val .null, .unset] [])) st4 ?_
  have Fw4 := F2_2.same W4
  have F4_5 := F2_1.wr W4
  have F4_6 := F2_3.other W4 (Or.inr (slot_ne (Or.inr (hw _ (List.mem_of_getElem? (i := 21) rfl))) (Or.inr (hw _ (List.mem_of_getElem? (i := 20) rfl))) (by decide) (t := .byte) (t' := (.array .byte)) (by decide) (by decide)))
  have F4_7 := Safe.wr W4 F2_4 R2.1 F2_4
  have F4_8 := A2.wr W4
  have F4_9 := Fc2.other W4 (Or.inl (Ne.symm nl2_a1.1))
  have F4_10 := Fv2.other W4 (Or.inl (Ne.symm nl2_a1.1))
  have F4_11 := V2.other W4 (Ne.symm nl2_a1.2)
  have Ol4 := Ol2.wr W4 f3
  have K4 : Keep h0 h4 ([a1] : List Addr) := K2.wr W4 (Or.inl (List.mem_of_getElem? (i := 0) rfl))
  have R4 := R2.trans (CHr.wr W4 F2_4 R2.1)
  have hk4 := Nat.le_trans hk2 (Keep.of_wr W4).1
  have N4 := Fr.snoc X4 N0 f3
  refine OwnGoes.step (T' := T4) (g' := (mkF m 18 #[.val (.ref a1), .val (.ref b1), .val (.int (0 : Int32)), .val (.int (0 : Int32)), .val .null, .unset] [(.ref a1)])) (fun tgt kgo => ?_) ?_
  · show Steps p.tables e below (T4.setTop (mkF m 17 #[.val (.ref a1), .val (.ref b1), .val (.int (0 : Int32)), .val (.int (0 : Int32)), .val .null, .unset] [])) tgt
    refine XS.aloadN X4.here hx rfl (hb hby dd_jdk_42_method_149_17) rfl rfl ?_
    exact kgo
  obtain ⟨b5, T5, h5, kk5, t5, k5, X5, e5, E5, hS5, hk5, hZ5, ho5, A5, Fc5, Fv5, V5, lt5, lu5, Rc5, Lt5, ns5, st5⟩ := ldcCH X4 hx hZ2 ho2 (hw _ (List.mem_of_getElem? (i := 18) rfl)) hstr e4 hS2 hk4 hEL (by decide) R4.1 (vs := []) (z := (0 : Int32)) (by decide +kernel) (by decide) (by decide +kernel) (g := (mkF m 18 #[.val (.ref a1), .val (.ref b1), .val (.int (0 : Int32)), .val (.int (0 : Int32)), .val .null, .unset] [(.ref a1)])) rfl (hb hby dd_jdk_42_method_149_18) (n := 0) (by decide) (by decide) (by decide) (by decide)
  refine OwnGoes.step (T' := T5) (g' := (mkF m 20 #[.val (.ref a1), .val (.ref b1), .val (.int (0 : Int32)), .val (.int (0 : Int32)), .val .null, .unset] [(.ref b5), (.ref a1)])) st5 ?_
  have F5_12 := F4_5.ext E5
  have F5_13 := Fw4.ext E5
  have F5_14 := F4_6.ext E5
  have F5_15 := Rc5.safe F4_5.lt F4_7
  have F5_16 := F4_8.ext E5
  have F5_17 := F4_9.ext E5
  have F5_18 := F4_10.ext E5
  have F5_19 := F4_11.ext E5
  have Ol5 := Ol4.ext E5
  have K5 : Keep h0 h5 ([a1] : List Addr) := K4.ext E5
  have R5 := R4.trans Rc5
  have nl5_a1 := ns5 _ F5_15
  obtain ⟨T6, X6, e6, st6⟩ := getF X5 hx hZ5 ho5 (host := "") (Or.inl (hw _ (List.mem_of_getElem? (i := 25) rfl))) Via.refl e5 Fc5 (g := (mkF m 20 #[.val (.ref a1), .val (.ref b1), .val (.int (0 : Int32)), .val (.int (0 : Int32)), .val .null, .unset] [(.ref b5), (.ref a1)])) rfl rfl (hb hby dd_jdk_42_method_149_20)
  refine OwnGoes.step (T' := T6) (g' := (mkF m 23 #[.val (.ref a1), .val (.ref b1), .val (.int (0 : Int32)), .val (.int (0 : Int32)), .val .null, .unset] [(.int (0 : Int32)), (.ref a1)])) st6 ?_
  obtain ⟨T7, h7, X7, e7, W7, st7⟩ := putFN X6 hx hZ5 ho5 (hw _ (List.mem_of_getElem? (i := 25) rfl)) Via.refl e6 F5_14 F5_12 (Or.inr ⟨(hw _ (List.mem_of_getElem? (i := 21) rfl)), rfl, hnm⟩) (hw _ (List.mem_of_getElem? (i := 5) rfl)) (ty := .byte) (v' := (.int (nar .byte (0 : Int32)))) (by decide) rfl (fits_nar_byte _) (g := (mkF m 23 #[.val (.ref a1), .val (.ref b1), .val (.int (0 : Int32)), .val (.int (0 : Int32)), .val .null, .unset] [(.int (0 : Int32)), (.ref a1)])) rfl rfl (hb hby dd_jdk_42_method_149_23)
  refine OwnGoes.step (T' := T7) (g' := (mkF m 26 #[.val (.ref a1), .val (.ref b1), .val (.int (0 : Int32)), .val (.int (0 : Int32)), .val .null, .unset] [])) st7 ?_
  have Fw7 := F5_14.same W7
  rw [(by decide : nar .byte (0 : Int32) = (0 : Int32))] at Fw7
  have F7_20 := F5_12.wr W7
  have F7_21 := F5_13.other W7 (Or.inr (slot_ne (Or.inr (hw _ (List.mem_of_getElem? (i := 20) rfl))) (Or.inr (hw _ (List.mem_of_getElem? (i := 21) rfl))) (by decide) (t := (.array .byte)) (t' := .byte) (by decide) (by decide)))
  have F7_22 := Safe.wr W7 F5_15 R5.1 F5_15
  have F7_23 := F5_16.wr W7
  have F7_24 := F5_17.other W7 (Or.inl (Ne.symm nl2_a1.1))
  have F7_25 := F5_18.other W7 (Or.inl (Ne.symm nl2_a1.1))
  have F7_26 := F5_19.other W7 (Ne.symm nl2_a1.2)
  have F7_27 := A5.wr W7
  have F7_28 := Fc5.other W7 (Or.inl (Ne.symm nl5_a1.1))
  have F7_29 := Fv5.other W7 (Or.inl (Ne.symm nl5_a1.1))
  have F7_30 := V5.other W7 (Ne.symm nl5_a1.2)
  have Ol7 := Ol5.wr W7 f3
  have K7 : Keep h0 h7 ([a1] : List Addr) := K5.wr W7 (Or.inl (List.mem_of_getElem? (i := 0) rfl))
  have R7 := R5.trans (CHr.wr W7 F5_15 R5.1)
  have hk7 := Nat.le_trans hk5 (Keep.of_wr W7).1
  have N7 := Fr.snoc X7 N4 f3
  refine own_leaveW (Z := Z) (EL := consts_1) X7 hS5 (e7 ▸ hk7) hlk (v := none) (fun _ => rfl) (fun fs hr => X7.returnOut hx Bd.returns (hb hby dd_jdk_42_method_149_26) hr) (by decide) (by decide) ?_ ?_
  · rw [hh, e7]
    exact R7.trans (CHv.at X7 hZ5 hEL R7.1)
  show Q_si6e Z a1 b1 h0 n0 _ T7.heap _
  rw [e7]
  exact ⟨t2, k2, rfl, N7, K7, F7_20, F7_21, Fw7, F7_26⟩
theorem ef_si2e (m : MethodId) (x0 : Addr) (x1 : Addr) : entryFrame m #[(.ref x0), (.ref x1)] 2 = mkF m 0 #[.val (.ref x0), .val (.ref x1)] [] := by first | (simp [entryFrame, mkF, argsToLocals, Value.category]; done) | rfl
def Q_si2e (Z : State) (a1 : Addr) (b1 : Addr) (kc : ClassId) (h0 : Heap) (n0 : Nat) (v : Option Value) (h : Heap) (L : List Loc) : Prop := ∃ (t : Addr), ∃ (k : ClassId), v = none ∧ Fr n0 L ∧ Keep h0 h ([a1] : List Addr) ∧ Exa Z h a1 "java/lang/String" ∧ Fld Z h a1 "java/lang/String" "value" "[B" (.ref t) ∧ Fld Z h a1 "java/lang/String" "coder" "B" (.int (0 : Int32)) ∧ Arv Z h t k .byte (0 : Int32) [] (.int (0 : Int32))
theorem dd_jdk_42_method_3_0 : decode jdk_42_method_3_code 0 = .ok (.aload_n 0, 1) := by decide +kernel
theorem dd_jdk_42_method_3_1 : decode jdk_42_method_3_code 1 = .ok (.aload_n 1, 1) := by decide +kernel
theorem dd_jdk_42_method_3_2 : decode jdk_42_method_3_code 2 = .ok (.iconst 0, 1) := by decide +kernel
theorem dd_jdk_42_method_3_3 : decode jdk_42_method_3_code 3 = .ok (.aload_n 1, 1) := by decide +kernel
theorem dd_jdk_42_method_3_4 : decode jdk_42_method_3_code 4 = .ok (.arraylength, 1) := by decide +kernel
theorem dd_jdk_42_method_3_5 : decode jdk_42_method_3_code 5 = .ok (.aconst_null, 1) := by decide +kernel
theorem dd_jdk_42_method_3_6 : decode jdk_42_method_3_code 6 = .ok (.invokespecial 27, 3) := by decide +kernel
theorem pd_10261703 : parseMethodDescriptor "([CIILjava/lang/Void;)V" = some ⟨[(.array .char), .int, .int, (.object "java/lang/Void")], none⟩ := by decide +kernel
theorem dd_jdk_42_method_3_9 : decode jdk_42_method_3_code 9 = .ok (.return_, 1) := by decide +kernel
set_option maxRecDepth 65536 in
set_option maxHeartbeats 40000000 in
theorem rm_si2e (l : Launch) (Z : State) (a0 : Array Value) (hw : ∀ d ∈ tables_1, d.before a0 Z = true) (ws : List Jvm.Cond) (wG1 : Int32) (wO2 : Sta Z Z.heap "java/lang/String" "COMPACT_STRINGS" "Z" (.int wG1)) (wP5 : ¬ (wG1 = (0 : Int32))) (wG3 : Value) (wO4 : Sta Z Z.heap "jdk/internal/util/Preconditions" "SIOOBE_FORMATTER" "Ljava/util/function/BiFunction;" wG3) (wrG3 : wG3.isRef = true) (hstr : ∀ a ∈ Bundle.stringAtoms, a.before a0 Z = true) (wG5 : Addr) (wK5 : ClassId) (wO5 : Sta Z Z.heap "java/util/ArrayList" "DEFAULTCAPACITY_EMPTY_ELEMENTDATA" "[Ljava/lang/Object;" (.ref wG5)) (wV5 : Arv Z Z.heap wG5 wK5 (.object "java/lang/Object") (0 : Int32) [] .null) (wG6 : Addr) (wO6 : Sta Z Z.heap "java/util/Optional" "EMPTY" "Ljava/util/Optional;" (.ref wG6)) (wE6 : Exa Z Z.heap wG6 "java/util/Optional") (wF6 : Fld Z Z.heap wG6 "java/util/Optional" "value" "Ljava/lang/Object;" .null) (hEL : EW Z a0 consts_1) (h0 : Heap) (n0 : Nat) (X00 : Old Z n0 h0) (a1 : Addr) (b1 : Addr) (kc : ClassId) (f0 : Exa Z h0 a1 "java/lang/String") (f1 : Fld Z h0 a1 "java/lang/String" "value" "[B" .null) (f2 : Fld Z h0 a1 "java/lang/String" "coder" "B" (.int (0 : Int32))) (f3 : n0 ≤ a1) (f4 : Arv Z h0 b1 kc .char (0 : Int32) [] (.int (0 : Int32))) :
    MetFree l (⟨"java/lang/String", "<init>", "([C)V"⟩ : MethodName) (head1 (Jvm.Cond.code (⟨"java/lang/String", "<init>", "([C)V"⟩ : MethodName) jdk_42_method_3_code 2 none :: ws) ({ frames := 2, cells := 4, slots := 8, locals := 29 } : Room)) (fun a U => a = #[(.ref a1), (.ref b1)] ∧ Z.Warmed39 U.vm ∧ U.heap = h0 ∧ CHv Z consts_1 U.vm h0) (fun _ _ _ _ _ => True) (fun _ U o U' => ∃ v L, o = .returned v ∧ Q_si2e Z a1 b1 kc h0 n0 v U'.heap L ∧ CHr Z consts_1 U.vm U.heap U'.vm U'.heap ∧ ReturnedEndW U o U' L ({ frames := 2, cells := 4, slots := 8, locals := 29 } : Room).cells ({ frames := 2, cells := 4, slots := 8, locals := 29 } : Room).slots) := by
  refine MetFree.of_bodySF (plainFor_of_name pn_52039224) hisR ?_
  intro p e s m args below meth c s₁ Bd hml0 hP hK
  obtain ⟨rfl, hZ, hh, hH⟩ := hP
  have hx := Bd.exec
  have hby := Bd.bytes
  have hlk := Bd.notSynchronized
  have hml : c.maxLocals = 2 := hml0
  have hown : s.vm.findClass "java/lang/String" = some m.cls := findClass_of_methodNamed Bd.named
  have hnm := (name_of_methodNamed Bd.named Bd.method).1
  have X0 : Stand p l e ({ frames := 2, cells := 4, slots := 8, locals := 29 } : Room) (s.setVm s.vm) m #[(.ref a1), (.ref b1)] below meth c s₁ [] 0 0 := Stand.of_body Bd
  have e0 : s₁.heap = h0 := by rw [← hh, Bd.state]; rfl
  have N0 := Fr.nil n0
  have Z0 : n0 ≤ h0.size := X00.1 ▸ X00.2.1
  have K0 : Keep h0 h0 ([a1] : List Addr) := Keep.refl _ _
  have R0 : CHr Z consts_1 s.vm h0 s.vm h0 := CHr.refl hH
  have hS0 : s.Since s.vm h0.size := State.WarmedH.since (State.WarmedH.refl s) _
  have hk0 : h0.size ≤ h0.size := Nat.le_refl _
  have Sf0_a1 : Safe Z consts_1 s.vm h0 a1 := (own_safe_null (vm := s.vm) hZ.alike (hw _ (List.mem_of_getElem? (i := 5) rfl)) f0 f1)
  show OwnGoes p e below (fun o U' => ∃ v L, o = .returned v ∧ Q_si2e Z a1 b1 kc h0 n0 v U'.heap L ∧ CHr Z consts_1 s.vm s.heap U'.vm U'.heap ∧ ReturnedEndW s o U' L ({ frames := 2, cells := 4, slots := 8, locals := 29 } : Room).cells ({ frames := 2, cells := 4, slots := 8, locals := 29 } : Room).slots) s₁ (entryFrame m #[(.ref a1), (.ref b1)] 2)
  refine OwnGoes.step (T' := s₁) (g' := (mkF m 0 #[.val (.ref a1), .val (.ref b1)] [])) (fun tgt kgo => castTop (ef_si2e m a1 b1) kgo) ?_
  refine OwnGoes.step (T' := s₁) (g' := (mkF m 6 #[.val (.ref a1), .val (.ref b1)] [.null, (.int (0 : Int32)), (.int (0 : Int32)), (.ref b1), (.ref a1)])) (fun tgt kgo => ?_) ?_
  · show Steps p.tables e below (s₁.setTop (mkF m 0 #[.val (.ref a1), .val (.ref b1)] [])) tgt
    refine XS.aloadN X0.here hx rfl (hb hby dd_jdk_42_method_3_0) rfl rfl ?_
    show Steps p.tables e below (s₁.setTop (mkF m 1 #[.val (.ref a1), .val (.ref b1)] [(.ref a1)])) tgt
    refine XS.aloadN X0.here hx rfl (hb hby dd_jdk_42_method_3_1) rfl rfl ?_
    show Steps p.tables e below (s₁.setTop (mkF m 2 #[.val (.ref a1), .val (.ref b1)] [(.ref b1), (.ref a1)])) tgt
    refine XS.iconst X0.here hx rfl (hb hby dd_jdk_42_method_3_2) ?_
    show Steps p.tables e below (s₁.setTop (mkF m 3 #[.val (.ref a1), .val (.ref b1)] [(.int (0 : Int32)), (.ref b1), (.ref a1)])) tgt
    refine XS.aloadN X0.here hx rfl (hb hby dd_jdk_42_method_3_3) rfl rfl ?_
    show Steps p.tables e below (s₁.setTop (mkF m 4 #[.val (.ref a1), .val (.ref b1)] [(.ref b1), (.int (0 : Int32)), (.ref b1), (.ref a1)])) tgt
    obtain ⟨cl1, Ar1, q1, S1, M1, -, -⟩ := f4
    refine X0.arraylength hx (by rw [e0]; exact Ar1.1) (State.isArrayOf_alike hZ.alike Ar1.2.1) (g := (mkF m 4 #[.val (.ref a1), .val (.ref b1)] [(.ref b1), (.int (0 : Int32)), (.ref b1), (.ref a1)])) rfl rfl (hb hby dd_jdk_42_method_3_4) _ ?_
    rw [len_of S1 M1]
    show Steps p.tables e below (s₁.setTop (mkF m 5 #[.val (.ref a1), .val (.ref b1)] [(.int (0 : Int32)), (.int (0 : Int32)), (.ref b1), (.ref a1)])) tgt
    refine XS.aconstNull X0.here hx rfl (hb hby dd_jdk_42_method_3_5) ?_
    exact kgo
  obtain ⟨_, _, ⟨T2, L2, k2, n2⟩, -, X2, Si2, Gr2, ⟨Lc2, hQ2, l2, y2, z2, Rc2⟩, st2⟩ := X0.specialBackS hx (y := (⟨"java/lang/String", "<init>", "([CIILjava/lang/Void;)V"⟩ : MethodName)) rfl hown (mvT hZ (hw _ (List.mem_of_getElem? (i := 11) rfl))) (mvT hZ (hw _ (List.mem_of_getElem? (i := 12) rfl))) (mvT hZ (hw _ (List.mem_of_getElem? (i := 14) rfl))) (by decide) (backOfSH (W := 0) (rm_si6e l Z a0 hw [] wG1 wO2 wP5 wG3 wO4 wrG3 hstr wG5 wK5 wO5 wV5 wG6 wO6 wE6 wF6 hEL h0 n0 X00 a1 b1 f0 f1 f2 f3) hZ (hw _ (List.mem_of_getElem? (i := 14) rfl)) (hw _ (List.mem_of_getElem? (i := 6) rfl)) (by decide) (by decide) hEL R0.1) (g := (mkF m 6 #[.val (.ref a1), .val (.ref b1)] [.null, (.int (0 : Int32)), (.int (0 : Int32)), (.ref b1), (.ref a1)])) rfl (by rw [hml]; rfl) (Steps.refl _) (a := a1) (argsL := [(.ref b1), (.int (0 : Int32)), (.int (0 : Int32)), .null]) (rest := []) (lenOf pd_10261703 rfl) rfl (by show 2 * 0 + _ ≤ _; exact Nat.le_of_eq rfl) (hb hby dd_jdk_42_method_3_6) (fun _ _ => ⟨rfl, e0, (by decide : 0 + 4 ≤ _), (by decide : 0 + 8 ≤ _)⟩)
  dsimp only [Pt.U, Pt.locs, Pt.cells, Pt.slots] at X2 l2 y2 z2 st2 hQ2 Si2 Gr2 Rc2
  subst l2 y2 z2
  obtain ⟨t_2, k_2, rfl, Nq2, Kq2, fq2_0, fq2_1, fq2_2, fq2_3⟩ := hQ2
  refine OwnGoes.tr (T' := T2) (g' := (mkF m 9 #[.val (.ref a1), .val (.ref b1)] [])) st2 ?_
  have N2 := Fr.app N0 Nq2
  have gz2 : h0.size ≤ T2.heap.size := Rc2.2.1
  obtain ⟨X2, hS2, hZ2, ho2⟩ := rebS hS0 hk0 X2 Si2 gz2 hZ hown
  have F2_1 := f0.keep Kq2
  have F2_2 := f4.keep Kq2 (ninS (Ne.symm (Exa.neArv f0 f4 (hw _ (List.mem_of_getElem? (i := 5) rfl)))) nin0)
  have F2_3 := Rc2.safe f0.lt Sf0_a1
  have Ol2 := X00.keep Kq2 (allS f3 all0)
  have K2 : Keep h0 T2.heap ([a1] : List Addr) := K0.trans Kq2 (allS (Or.inl (List.mem_of_getElem? (i := 0) rfl)) all0)
  have R2 := R0.trans Rc2
  refine own_leaveW (Z := Z) (EL := consts_1) X2 hS2 (Nat.le_refl _) hlk (v := none) (fun _ => rfl) (fun fs hr => X2.returnOut hx Bd.returns (hb hby dd_jdk_42_method_3_9) hr) (by decide) (by decide) ?_ ?_
  · rw [hh]
    exact R2.trans (CHv.at X2 hZ2 hEL R2.1)
  show Q_si2e Z a1 b1 kc h0 n0 _ T2.heap _
  exact ⟨t_2, k_2, rfl, N2, K2, fq2_0, fq2_1, fq2_2, fq2_3⟩
theorem ef_str (m : MethodId) (x0 : Int32) (x1 : Int32) : entryFrame m #[(.int x0), (.int x1)] 6 = mkF m 0 #[.val (.int x0), .val (.int x1), .unset, .unset, .unset, .unset] [] := by first | (simp [entryFrame, mkF, argsToLocals, Value.category]; done) | rfl
def Q_str (Z : State) (p1 : Int32) (p2 : Int32) (h0 : Heap) (n0 : Nat) (v : Option Value) (h : Heap) (L : List Loc) : Prop := ∃ (x : Addr), ∃ (t : Addr), ∃ (k : ClassId), ∃ (N : Int32), ∃ (vs : List Value), ∃ (cs : List Int32), v = some (.ref x) ∧ Fr n0 L ∧ Keep h0 h ([] : List Addr) ∧ h0.size ≤ x ∧ Exa Z h x "java/lang/String" ∧ Fld Z h x "java/lang/String" "value" "[B" (.ref t) ∧ Fld Z h x "java/lang/String" "coder" "B" (.int (0 : Int32)) ∧ Arv Z h t k .byte N vs (.int (0 : Int32)) ∧ (OwnStr cs (0 : Int32) N vs) ∧ (cs.length ≤ 4)
theorem pn_17081231 : plainName "com/example/veilstone/veilstone/fhir/ElementElementsOfPinLaw" = true := by first | (simp [plainName, overriddenIn]; done) | decide +kernel
theorem dd_method_2_0 : decode method_2_code 0 = .ok (.iload_n 0, 1) := by decide +kernel
theorem dd_method_2_1 : decode method_2_code 1 = .ok (.sipush 255, 3) := by decide +kernel
theorem dd_method_2_4 : decode method_2_code 4 = .ok (.iand, 1) := by decide +kernel
theorem dd_method_2_5 : decode method_2_code 5 = .ok (.i2c, 1) := by decide +kernel
theorem dd_method_2_6 : decode method_2_code 6 = .ok (.istore_n 2, 1) := by decide +kernel
theorem dd_method_2_7 : decode method_2_code 7 = .ok (.iload_n 0, 1) := by decide +kernel
theorem dd_method_2_8 : decode method_2_code 8 = .ok (.bipush 8, 2) := by decide +kernel
theorem dd_method_2_10 : decode method_2_code 10 = .ok (.iushr, 1) := by decide +kernel
theorem dd_method_2_11 : decode method_2_code 11 = .ok (.sipush 255, 3) := by decide +kernel
theorem dd_method_2_14 : decode method_2_code 14 = .ok (.iand, 1) := by decide +kernel
theorem dd_method_2_15 : decode method_2_code 15 = .ok (.i2c, 1) := by decide +kernel
theorem dd_method_2_16 : decode method_2_code 16 = .ok (.istore_n 3, 1) := by decide +kernel
theorem dd_method_2_17 : decode method_2_code 17 = .ok (.iload_n 0, 1) := by decide +kernel
theorem dd_method_2_18 : decode method_2_code 18 = .ok (.bipush 16, 2) := by decide +kernel
theorem dd_method_2_20 : decode method_2_code 20 = .ok (.iushr, 1) := by decide +kernel
theorem dd_method_2_21 : decode method_2_code 21 = .ok (.sipush 255, 3) := by decide +kernel
theorem dd_method_2_24 : decode method_2_code 24 = .ok (.iand, 1) := by decide +kernel
theorem dd_method_2_25 : decode method_2_code 25 = .ok (.i2c, 1) := by decide +kernel
theorem dd_method_2_26 : decode method_2_code 26 = .ok (.istore 4, 2) := by decide +kernel
theorem dd_method_2_28 : decode method_2_code 28 = .ok (.iload_n 0, 1) := by decide +kernel
theorem dd_method_2_29 : decode method_2_code 29 = .ok (.bipush 24, 2) := by decide +kernel
theorem dd_method_2_31 : decode method_2_code 31 = .ok (.iushr, 1) := by decide +kernel
theorem dd_method_2_32 : decode method_2_code 32 = .ok (.sipush 255, 3) := by decide +kernel
theorem dd_method_2_35 : decode method_2_code 35 = .ok (.iand, 1) := by decide +kernel
theorem dd_method_2_36 : decode method_2_code 36 = .ok (.i2c, 1) := by decide +kernel
theorem dd_method_2_37 : decode method_2_code 37 = .ok (.istore 5, 2) := by decide +kernel
theorem dd_method_2_39 : decode method_2_code 39 = .ok (.iload_n 1, 1) := by decide +kernel
theorem dd_method_2_40 : decode method_2_code 40 = .ok (.ifCond .ne 14, 3) := by decide +kernel
theorem dd_method_2_43 : decode method_2_code 43 = .ok (.new 7, 3) := by decide +kernel
theorem dd_method_2_46 : decode method_2_code 46 = .ok (.dup, 1) := by decide +kernel
theorem dd_method_2_47 : decode method_2_code 47 = .ok (.iconst 0, 1) := by decide +kernel
theorem dd_method_2_48 : decode method_2_code 48 = .ok (.newarray .char, 2) := by decide +kernel
theorem dd_method_2_50 : decode method_2_code 50 = .ok (.invokespecial 9, 3) := by decide +kernel
theorem pd_68446664 : parseMethodDescriptor "([C)V" = some ⟨[(.array .char)], none⟩ := by decide +kernel
theorem dd_method_2_53 : decode method_2_code 53 = .ok (.areturn, 1) := by decide +kernel
theorem dd_method_2_54 : decode method_2_code 54 = .ok (.iload_n 1, 1) := by decide +kernel
theorem dd_method_2_55 : decode method_2_code 55 = .ok (.iconst 1, 1) := by decide +kernel
theorem dd_method_2_56 : decode method_2_code 56 = .ok (.if_icmp .ne 18, 3) := by decide +kernel
theorem dd_method_2_59 : decode method_2_code 59 = .ok (.new 7, 3) := by decide +kernel
theorem dd_method_2_62 : decode method_2_code 62 = .ok (.dup, 1) := by decide +kernel
theorem dd_method_2_63 : decode method_2_code 63 = .ok (.iconst 1, 1) := by decide +kernel
theorem dd_method_2_64 : decode method_2_code 64 = .ok (.newarray .char, 2) := by decide +kernel
theorem dd_method_2_66 : decode method_2_code 66 = .ok (.dup, 1) := by decide +kernel
theorem dd_method_2_67 : decode method_2_code 67 = .ok (.iconst 0, 1) := by decide +kernel
theorem dd_method_2_68 : decode method_2_code 68 = .ok (.iload_n 2, 1) := by decide +kernel
theorem dd_method_2_69 : decode method_2_code 69 = .ok (.castore, 1) := by decide +kernel
theorem dd_method_2_70 : decode method_2_code 70 = .ok (.invokespecial 9, 3) := by decide +kernel
theorem own_hws : ∀ d ∈ StrChars.Road.words, d ∈ tables_1 := by decide +kernel
theorem dd_method_2_73 : decode method_2_code 73 = .ok (.areturn, 1) := by decide +kernel
theorem dd_method_2_74 : decode method_2_code 74 = .ok (.iload_n 1, 1) := by decide +kernel
theorem dd_method_2_75 : decode method_2_code 75 = .ok (.iconst 2, 1) := by decide +kernel
theorem dd_method_2_76 : decode method_2_code 76 = .ok (.if_icmp .ne 22, 3) := by decide +kernel
theorem dd_method_2_79 : decode method_2_code 79 = .ok (.new 7, 3) := by decide +kernel
theorem dd_method_2_82 : decode method_2_code 82 = .ok (.dup, 1) := by decide +kernel
theorem dd_method_2_83 : decode method_2_code 83 = .ok (.iconst 2, 1) := by decide +kernel
theorem dd_method_2_84 : decode method_2_code 84 = .ok (.newarray .char, 2) := by decide +kernel
theorem dd_method_2_86 : decode method_2_code 86 = .ok (.dup, 1) := by decide +kernel
theorem dd_method_2_87 : decode method_2_code 87 = .ok (.iconst 0, 1) := by decide +kernel
theorem dd_method_2_88 : decode method_2_code 88 = .ok (.iload_n 2, 1) := by decide +kernel
theorem dd_method_2_89 : decode method_2_code 89 = .ok (.castore, 1) := by decide +kernel
theorem dd_method_2_90 : decode method_2_code 90 = .ok (.dup, 1) := by decide +kernel
theorem dd_method_2_91 : decode method_2_code 91 = .ok (.iconst 1, 1) := by decide +kernel
theorem dd_method_2_92 : decode method_2_code 92 = .ok (.iload_n 3, 1) := by decide +kernel
theorem dd_method_2_93 : decode method_2_code 93 = .ok (.castore, 1) := by decide +kernel
theorem dd_method_2_94 : decode method_2_code 94 = .ok (.invokespecial 9, 3) := by decide +kernel
theorem dd_method_2_97 : decode method_2_code 97 = .ok (.areturn, 1) := by decide +kernel
theorem dd_method_2_98 : decode method_2_code 98 = .ok (.iload_n 1, 1) := by decide +kernel
theorem dd_method_2_99 : decode method_2_code 99 = .ok (.iconst 3, 1) := by decide +kernel
theorem dd_method_2_100 : decode method_2_code 100 = .ok (.if_icmp .ne 27, 3) := by decide +kernel
theorem dd_method_2_103 : decode method_2_code 103 = .ok (.new 7, 3) := by decide +kernel
theorem dd_method_2_106 : decode method_2_code 106 = .ok (.dup, 1) := by decide +kernel
theorem dd_method_2_107 : decode method_2_code 107 = .ok (.iconst 3, 1) := by decide +kernel
theorem dd_method_2_108 : decode method_2_code 108 = .ok (.newarray .char, 2) := by decide +kernel
theorem dd_method_2_110 : decode method_2_code 110 = .ok (.dup, 1) := by decide +kernel
theorem dd_method_2_111 : decode method_2_code 111 = .ok (.iconst 0, 1) := by decide +kernel
theorem dd_method_2_112 : decode method_2_code 112 = .ok (.iload_n 2, 1) := by decide +kernel
theorem dd_method_2_113 : decode method_2_code 113 = .ok (.castore, 1) := by decide +kernel
theorem dd_method_2_114 : decode method_2_code 114 = .ok (.dup, 1) := by decide +kernel
theorem dd_method_2_115 : decode method_2_code 115 = .ok (.iconst 1, 1) := by decide +kernel
theorem dd_method_2_116 : decode method_2_code 116 = .ok (.iload_n 3, 1) := by decide +kernel
theorem dd_method_2_117 : decode method_2_code 117 = .ok (.castore, 1) := by decide +kernel
theorem dd_method_2_118 : decode method_2_code 118 = .ok (.dup, 1) := by decide +kernel
theorem dd_method_2_119 : decode method_2_code 119 = .ok (.iconst 2, 1) := by decide +kernel
theorem dd_method_2_120 : decode method_2_code 120 = .ok (.iload 4, 2) := by decide +kernel
theorem dd_method_2_122 : decode method_2_code 122 = .ok (.castore, 1) := by decide +kernel
theorem dd_method_2_123 : decode method_2_code 123 = .ok (.invokespecial 9, 3) := by decide +kernel
theorem dd_method_2_126 : decode method_2_code 126 = .ok (.areturn, 1) := by decide +kernel
theorem dd_method_2_127 : decode method_2_code 127 = .ok (.new 7, 3) := by decide +kernel
theorem dd_method_2_130 : decode method_2_code 130 = .ok (.dup, 1) := by decide +kernel
theorem dd_method_2_131 : decode method_2_code 131 = .ok (.iconst 4, 1) := by decide +kernel
theorem dd_method_2_132 : decode method_2_code 132 = .ok (.newarray .char, 2) := by decide +kernel
theorem dd_method_2_134 : decode method_2_code 134 = .ok (.dup, 1) := by decide +kernel
theorem dd_method_2_135 : decode method_2_code 135 = .ok (.iconst 0, 1) := by decide +kernel
theorem dd_method_2_136 : decode method_2_code 136 = .ok (.iload_n 2, 1) := by decide +kernel
theorem dd_method_2_137 : decode method_2_code 137 = .ok (.castore, 1) := by decide +kernel
theorem dd_method_2_138 : decode method_2_code 138 = .ok (.dup, 1) := by decide +kernel
theorem dd_method_2_139 : decode method_2_code 139 = .ok (.iconst 1, 1) := by decide +kernel
theorem dd_method_2_140 : decode method_2_code 140 = .ok (.iload_n 3, 1) := by decide +kernel
theorem dd_method_2_141 : decode method_2_code 141 = .ok (.castore, 1) := by decide +kernel
theorem dd_method_2_142 : decode method_2_code 142 = .ok (.dup, 1) := by decide +kernel
theorem dd_method_2_143 : decode method_2_code 143 = .ok (.iconst 2, 1) := by decide +kernel
theorem dd_method_2_144 : decode method_2_code 144 = .ok (.iload 4, 2) := by decide +kernel
theorem dd_method_2_146 : decode method_2_code 146 = .ok (.castore, 1) := by decide +kernel
theorem dd_method_2_147 : decode method_2_code 147 = .ok (.dup, 1) := by decide +kernel
theorem dd_method_2_148 : decode method_2_code 148 = .ok (.iconst 3, 1) := by decide +kernel
theorem dd_method_2_149 : decode method_2_code 149 = .ok (.iload 5, 2) := by decide +kernel
theorem dd_method_2_151 : decode method_2_code 151 = .ok (.castore, 1) := by decide +kernel
theorem dd_method_2_152 : decode method_2_code 152 = .ok (.invokespecial 9, 3) := by decide +kernel
theorem dd_method_2_155 : decode method_2_code 155 = .ok (.areturn, 1) := by decide +kernel
set_option maxRecDepth 65536 in
set_option maxHeartbeats 40000000 in
theorem rm_str (l : Launch) (Z : State) (a0 : Array Value) (hw : ∀ d ∈ tables_1, d.before a0 Z = true) (ws : List Jvm.Cond) (wG1 : Int32) (wO2 : Sta Z Z.heap "java/lang/String" "COMPACT_STRINGS" "Z" (.int wG1)) (wP5 : ¬ (wG1 = (0 : Int32))) (wG3 : Value) (wO4 : Sta Z Z.heap "jdk/internal/util/Preconditions" "SIOOBE_FORMATTER" "Ljava/util/function/BiFunction;" wG3) (wrG3 : wG3.isRef = true) (hstr : ∀ a ∈ Bundle.stringAtoms, a.before a0 Z = true) (wG5 : Addr) (wK5 : ClassId) (wO5 : Sta Z Z.heap "java/util/ArrayList" "DEFAULTCAPACITY_EMPTY_ELEMENTDATA" "[Ljava/lang/Object;" (.ref wG5)) (wV5 : Arv Z Z.heap wG5 wK5 (.object "java/lang/Object") (0 : Int32) [] .null) (wG6 : Addr) (wO6 : Sta Z Z.heap "java/util/Optional" "EMPTY" "Ljava/util/Optional;" (.ref wG6)) (wE6 : Exa Z Z.heap wG6 "java/util/Optional") (wF6 : Fld Z Z.heap wG6 "java/util/Optional" "value" "Ljava/lang/Object;" .null) (hEL : EW Z a0 consts_1) (h0 : Heap) (n0 : Nat) (X00 : Old Z n0 h0) (p1 : Int32) (p2 : Int32) :
    MetFree l (⟨"com/example/veilstone/veilstone/fhir/ElementElementsOfPinLaw", "str", "(II)Ljava/lang/String;"⟩ : MethodName) (head1 (Jvm.Cond.code (⟨"com/example/veilstone/veilstone/fhir/ElementElementsOfPinLaw", "str", "(II)Ljava/lang/String;"⟩ : MethodName) method_2_code 6 (some (.object "java/lang/String")) :: ws) ({ frames := 4, cells := 6, slots := 12, locals := 66 } : Room)) (fun a U => a = #[(.int p1), (.int p2)] ∧ Z.Warmed39 U.vm ∧ U.heap = h0 ∧ CHv Z consts_1 U.vm h0) (fun _ _ _ _ _ => True) (fun _ U o U' => ∃ v L, o = .returned v ∧ Q_str Z p1 p2 h0 n0 v U'.heap L ∧ CHr Z consts_1 U.vm U.heap U'.vm U'.heap ∧ ReturnedEndW U o U' L ({ frames := 4, cells := 6, slots := 12, locals := 66 } : Room).cells ({ frames := 4, cells := 6, slots := 12, locals := 66 } : Room).slots) := by
  refine MetFree.of_bodySF (plainFor_of_name pn_17081231) hisR ?_
  intro p e s m args below meth c s₁ Bd hml0 hP hK
  obtain ⟨rfl, hZ, hh, hH⟩ := hP
  have hx := Bd.exec
  have hby := Bd.bytes
  have hlk := Bd.notSynchronized
  have hml : c.maxLocals = 6 := hml0
  have hown : s.vm.findClass "com/example/veilstone/veilstone/fhir/ElementElementsOfPinLaw" = some m.cls := findClass_of_methodNamed Bd.named
  have hnm := (name_of_methodNamed Bd.named Bd.method).1
  have X0 : Stand p l e ({ frames := 4, cells := 6, slots := 12, locals := 66 } : Room) (s.setVm s.vm) m #[(.int p1), (.int p2)] below meth c s₁ [] 0 0 := Stand.of_body Bd
  have e0 : s₁.heap = h0 := by rw [← hh, Bd.state]; rfl
  have N0 := Fr.nil n0
  have Z0 : n0 ≤ h0.size := X00.1 ▸ X00.2.1
  have K0 : Keep h0 h0 ([] : List Addr) := Keep.refl _ _
  have R0 : CHr Z consts_1 s.vm h0 s.vm h0 := CHr.refl hH
  have hS0 : s.Since s.vm h0.size := State.WarmedH.since (State.WarmedH.refl s) _
  have hk0 : h0.size ≤ h0.size := Nat.le_refl _
  show OwnGoes p e below (fun o U' => ∃ v L, o = .returned v ∧ Q_str Z p1 p2 h0 n0 v U'.heap L ∧ CHr Z consts_1 s.vm s.heap U'.vm U'.heap ∧ ReturnedEndW s o U' L ({ frames := 4, cells := 6, slots := 12, locals := 66 } : Room).cells ({ frames := 4, cells := 6, slots := 12, locals := 66 } : Room).slots) s₁ (entryFrame m #[(.int p1), (.int p2)] 6)
  refine OwnGoes.step (T' := s₁) (g' := (mkF m 0 #[.val (.int p1), .val (.int p2), .unset, .unset, .unset, .unset] [])) (fun tgt kgo => castTop (ef_str m p1 p2) kgo) ?_
  refine OwnGoes.step (T' := s₁) (g' := (mkF m 6 #[.val (.int p1), .val (.int p2), .unset, .unset, .unset, .unset] [(.int (nar .char (p1 &&& (255 : Int32))))])) (fun tgt kgo => ?_) ?_
  · show Steps p.tables e below (s₁.setTop (mkF m 0 #[.val (.int p1), .val (.int p2), .unset, .unset, .unset, .unset] [])) tgt
    refine XS.iloadN X0.here hx rfl (hb hby dd_method_2_0) rfl ?_
    show Steps p.tables e below (s₁.setTop (mkF m 1 #[.val (.int p1), .val (.int p2), .unset, .unset, .unset, .unset] [(.int p1)])) tgt
    refine XS.sipush X0.here hx rfl (hb hby dd_method_2_1) ?_
    show Steps p.tables e below (s₁.setTop (mkF m 4 #[.val (.int p1), .val (.int p2), .unset, .unset, .unset, .unset] [(.int (255 : Int32)), (.int p1)])) tgt
    refine XS.iand X0.here hx rfl (hb hby dd_method_2_4) rfl ?_
    show Steps p.tables e below (s₁.setTop (mkF m 5 #[.val (.int p1), .val (.int p2), .unset, .unset, .unset, .unset] [(.int (p1 &&& (255 : Int32)))])) tgt
    refine XS.i2c X0.here hx rfl (hb hby dd_method_2_5) rfl ?_
    exact kgo
  obtain ⟨c0, hc0⟩ : ∃ z : Int32, (nar .char (p1 &&& (255 : Int32))) = z := ⟨_, rfl⟩
  refine OwnGoes.step (T' := s₁) (g' := (mkF m 6 #[.val (.int p1), .val (.int p2), .unset, .unset, .unset, .unset] [(.int c0)])) (fun tgt kgo => castTop (by rw [hc0]) kgo) ?_
  have hl_c0 : ¬ c0 < 0 ∧ ¬ (255 : Int32) < c0 := hc0 ▸ (own_lat255 p1)
  refine OwnGoes.step (T' := s₁) (g' := (mkF m 16 #[.val (.int p1), .val (.int p2), .val (.int c0), .unset, .unset, .unset] [(.int (nar .char (((p1.toUInt32 >>> ((8 : Int32) &&& 31).toUInt32).toInt32) &&& (255 : Int32))))])) (fun tgt kgo => ?_) ?_
  · show Steps p.tables e below (s₁.setTop (mkF m 6 #[.val (.int p1), .val (.int p2), .unset, .unset, .unset, .unset] [(.int c0)])) tgt
    refine XS.istoreN X0.here hx rfl (hb hby dd_method_2_6) rfl (l' := #[.val (.int p1), .val (.int p2), .val (.int c0), .unset, .unset, .unset]) rfl ?_
    show Steps p.tables e below (s₁.setTop (mkF m 7 #[.val (.int p1), .val (.int p2), .val (.int c0), .unset, .unset, .unset] [])) tgt
    refine XS.iloadN X0.here hx rfl (hb hby dd_method_2_7) rfl ?_
    show Steps p.tables e below (s₁.setTop (mkF m 8 #[.val (.int p1), .val (.int p2), .val (.int c0), .unset, .unset, .unset] [(.int p1)])) tgt
    refine XS.bipush X0.here hx rfl (hb hby dd_method_2_8) ?_
    show Steps p.tables e below (s₁.setTop (mkF m 10 #[.val (.int p1), .val (.int p2), .val (.int c0), .unset, .unset, .unset] [(.int (8 : Int32)), (.int p1)])) tgt
    refine XS.iushr X0.here hx rfl (hb hby dd_method_2_10) rfl ?_
    show Steps p.tables e below (s₁.setTop (mkF m 11 #[.val (.int p1), .val (.int p2), .val (.int c0), .unset, .unset, .unset] [(.int ((p1.toUInt32 >>> ((8 : Int32) &&& 31).toUInt32).toInt32))])) tgt
    refine XS.sipush X0.here hx rfl (hb hby dd_method_2_11) ?_
    show Steps p.tables e below (s₁.setTop (mkF m 14 #[.val (.int p1), .val (.int p2), .val (.int c0), .unset, .unset, .unset] [(.int (255 : Int32)), (.int ((p1.toUInt32 >>> ((8 : Int32) &&& 31).toUInt32).toInt32))])) tgt
    refine XS.iand X0.here hx rfl (hb hby dd_method_2_14) rfl ?_
    show Steps p.tables e below (s₁.setTop (mkF m 15 #[.val (.int p1), .val (.int p2), .val (.int c0), .unset, .unset, .unset] [(.int (((p1.toUInt32 >>> ((8 : Int32) &&& 31).toUInt32).toInt32) &&& (255 : Int32)))])) tgt
    refine XS.i2c X0.here hx rfl (hb hby dd_method_2_15) rfl ?_
    exact kgo
  obtain ⟨c1, hc1⟩ : ∃ z : Int32, (nar .char (((p1.toUInt32 >>> ((8 : Int32) &&& 31).toUInt32).toInt32) &&& (255 : Int32))) = z := ⟨_, rfl⟩
  refine OwnGoes.step (T' := s₁) (g' := (mkF m 16 #[.val (.int p1), .val (.int p2), .val (.int c0), .unset, .unset, .unset] [(.int c1)])) (fun tgt kgo => castTop (by rw [hc1]) kgo) ?_
  have hl_c1 : ¬ c1 < 0 ∧ ¬ (255 : Int32) < c1 := hc1 ▸ (own_lat255 ((p1.toUInt32 >>> ((8 : Int32) &&& 31).toUInt32).toInt32))
  refine OwnGoes.step (T' := s₁) (g' := (mkF m 26 #[.val (.int p1), .val (.int p2), .val (.int c0), .val (.int c1), .unset, .unset] [(.int (nar .char (((p1.toUInt32 >>> ((16 : Int32) &&& 31).toUInt32).toInt32) &&& (255 : Int32))))])) (fun tgt kgo => ?_) ?_
  · show Steps p.tables e below (s₁.setTop (mkF m 16 #[.val (.int p1), .val (.int p2), .val (.int c0), .unset, .unset, .unset] [(.int c1)])) tgt
    refine XS.istoreN X0.here hx rfl (hb hby dd_method_2_16) rfl (l' := #[.val (.int p1), .val (.int p2), .val (.int c0), .val (.int c1), .unset, .unset]) rfl ?_
    show Steps p.tables e below (s₁.setTop (mkF m 17 #[.val (.int p1), .val (.int p2), .val (.int c0), .val (.int c1), .unset, .unset] [])) tgt
    refine XS.iloadN X0.here hx rfl (hb hby dd_method_2_17) rfl ?_
    show Steps p.tables e below (s₁.setTop (mkF m 18 #[.val (.int p1), .val (.int p2), .val (.int c0), .val (.int c1), .unset, .unset] [(.int p1)])) tgt
    refine XS.bipush X0.here hx rfl (hb hby dd_method_2_18) ?_
    show Steps p.tables e below (s₁.setTop (mkF m 20 #[.val (.int p1), .val (.int p2), .val (.int c0), .val (.int c1), .unset, .unset] [(.int (16 : Int32)), (.int p1)])) tgt
    refine XS.iushr X0.here hx rfl (hb hby dd_method_2_20) rfl ?_
    show Steps p.tables e below (s₁.setTop (mkF m 21 #[.val (.int p1), .val (.int p2), .val (.int c0), .val (.int c1), .unset, .unset] [(.int ((p1.toUInt32 >>> ((16 : Int32) &&& 31).toUInt32).toInt32))])) tgt
    refine XS.sipush X0.here hx rfl (hb hby dd_method_2_21) ?_
    show Steps p.tables e below (s₁.setTop (mkF m 24 #[.val (.int p1), .val (.int p2), .val (.int c0), .val (.int c1), .unset, .unset] [(.int (255 : Int32)), (.int ((p1.toUInt32 >>> ((16 : Int32) &&& 31).toUInt32).toInt32))])) tgt
    refine XS.iand X0.here hx rfl (hb hby dd_method_2_24) rfl ?_
    show Steps p.tables e below (s₁.setTop (mkF m 25 #[.val (.int p1), .val (.int p2), .val (.int c0), .val (.int c1), .unset, .unset] [(.int (((p1.toUInt32 >>> ((16 : Int32) &&& 31).toUInt32).toInt32) &&& (255 : Int32)))])) tgt
    refine XS.i2c X0.here hx rfl (hb hby dd_method_2_25) rfl ?_
    exact kgo
  obtain ⟨c2, hc2⟩ : ∃ z : Int32, (nar .char (((p1.toUInt32 >>> ((16 : Int32) &&& 31).toUInt32).toInt32) &&& (255 : Int32))) = z := ⟨_, rfl⟩
  refine OwnGoes.step (T' := s₁) (g' := (mkF m 26 #[.val (.int p1), .val (.int p2), .val (.int c0), .val (.int c1), .unset, .unset] [(.int c2)])) (fun tgt kgo => castTop (by rw [hc2]) kgo) ?_
  have hl_c2 : ¬ c2 < 0 ∧ ¬ (255 : Int32) < c2 := hc2 ▸ (own_lat255 ((p1.toUInt32 >>> ((16 : Int32) &&& 31).toUInt32).toInt32))
  refine OwnGoes.step (T' := s₁) (g' := (mkF m 37 #[.val (.int p1), .val (.int p2), .val (.int c0), .val (.int c1), .val (.int c2), .unset] [(.int (nar .char (((p1.toUInt32 >>> ((24 : Int32) &&& 31).toUInt32).toInt32) &&& (255 : Int32))))])) (fun tgt kgo => ?_) ?_
  · show Steps p.tables e below (s₁.setTop (mkF m 26 #[.val (.int p1), .val (.int p2), .val (.int c0), .val (.int c1), .unset, .unset] [(.int c2)])) tgt
    refine XS.istore X0.here hx rfl (hb hby dd_method_2_26) rfl (l' := #[.val (.int p1), .val (.int p2), .val (.int c0), .val (.int c1), .val (.int c2), .unset]) rfl ?_
    show Steps p.tables e below (s₁.setTop (mkF m 28 #[.val (.int p1), .val (.int p2), .val (.int c0), .val (.int c1), .val (.int c2), .unset] [])) tgt
    refine XS.iloadN X0.here hx rfl (hb hby dd_method_2_28) rfl ?_
    show Steps p.tables e below (s₁.setTop (mkF m 29 #[.val (.int p1), .val (.int p2), .val (.int c0), .val (.int c1), .val (.int c2), .unset] [(.int p1)])) tgt
    refine XS.bipush X0.here hx rfl (hb hby dd_method_2_29) ?_
    show Steps p.tables e below (s₁.setTop (mkF m 31 #[.val (.int p1), .val (.int p2), .val (.int c0), .val (.int c1), .val (.int c2), .unset] [(.int (24 : Int32)), (.int p1)])) tgt
    refine XS.iushr X0.here hx rfl (hb hby dd_method_2_31) rfl ?_
    show Steps p.tables e below (s₁.setTop (mkF m 32 #[.val (.int p1), .val (.int p2), .val (.int c0), .val (.int c1), .val (.int c2), .unset] [(.int ((p1.toUInt32 >>> ((24 : Int32) &&& 31).toUInt32).toInt32))])) tgt
    refine XS.sipush X0.here hx rfl (hb hby dd_method_2_32) ?_
    show Steps p.tables e below (s₁.setTop (mkF m 35 #[.val (.int p1), .val (.int p2), .val (.int c0), .val (.int c1), .val (.int c2), .unset] [(.int (255 : Int32)), (.int ((p1.toUInt32 >>> ((24 : Int32) &&& 31).toUInt32).toInt32))])) tgt
    refine XS.iand X0.here hx rfl (hb hby dd_method_2_35) rfl ?_
    show Steps p.tables e below (s₁.setTop (mkF m 36 #[.val (.int p1), .val (.int p2), .val (.int c0), .val (.int c1), .val (.int c2), .unset] [(.int (((p1.toUInt32 >>> ((24 : Int32) &&& 31).toUInt32).toInt32) &&& (255 : Int32)))])) tgt
    refine XS.i2c X0.here hx rfl (hb hby dd_method_2_36) rfl ?_
    exact kgo
  obtain ⟨c3, hc3⟩ : ∃ z : Int32, (nar .char (((p1.toUInt32 >>> ((24 : Int32) &&& 31).toUInt32).toInt32) &&& (255 : Int32))) = z := ⟨_, rfl⟩
  refine OwnGoes.step (T' := s₁) (g' := (mkF m 37 #[.val (.int p1), .val (.int p2), .val (.int c0), .val (.int c1), .val (.int c2), .unset] [(.int c3)])) (fun tgt kgo => castTop (by rw [hc3]) kgo) ?_
  have hl_c3 : ¬ c3 < 0 ∧ ¬ (255 : Int32) < c3 := hc3 ▸ (own_lat255 ((p1.toUInt32 >>> ((24 : Int32) &&& 31).toUInt32).toInt32))
  refine OwnGoes.step (T' := s₁) (g' := (mkF m 40 #[.val (.int p1), .val (.int p2), .val (.int c0), .val (.int c1), .val (.int c2), .val (.int c3)] [(.int p2)])) (fun tgt kgo => ?_) ?_
  · show Steps p.tables e below (s₁.setTop (mkF m 37 #[.val (.int p1), .val (.int p2), .val (.int c0), .val (.int c1), .val (.int c2), .unset] [(.int c3)])) tgt
    refine XS.istore X0.here hx rfl (hb hby dd_method_2_37) rfl (l' := #[.val (.int p1), .val (.int p2), .val (.int c0), .val (.int c1), .val (.int c2), .val (.int c3)]) rfl ?_
    show Steps p.tables e below (s₁.setTop (mkF m 39 #[.val (.int p1), .val (.int p2), .val (.int c0), .val (.int c1), .val (.int c2), .val (.int c3)] [])) tgt
    refine XS.iloadN X0.here hx rfl (hb hby dd_method_2_39) rfl ?_
    exact kgo
  by_cases cc1 : p2 = (0 : Int32)
  · skip
    refine OwnGoes.step (T' := s₁) (g' := (mkF m 43 #[.val (.int p1), .val (.int p2), .val (.int c0), .val (.int c1), .val (.int c2), .val (.int c3)] [])) (fun tgt kgo => ?_) ?_
    · show Steps p.tables e below (s₁.setTop (mkF m 40 #[.val (.int p1), .val (.int p2), .val (.int c0), .val (.int c1), .val (.int c2), .val (.int c3)] [(.int p2)])) tgt
      refine XS.ifNo X0.here hx rfl (hb hby dd_method_2_40) rfl ((if0 _ _).trans (teq cc1).2) ?_
      exact kgo
    obtain ⟨T2, h2, X2, e2, E2, A2, D2, U2, st2⟩ := newO X0 hx hZ hown (hw _ (List.mem_of_getElem? (i := 4) rfl)) (hw _ (List.mem_of_getElem? (i := 5) rfl)) (hw _ (List.mem_of_getElem? (i := 6) rfl)) e0 (g := (mkF m 43 #[.val (.int p1), .val (.int p2), .val (.int c0), .val (.int c1), .val (.int c2), .val (.int c3)] [])) rfl (hb hby dd_method_2_43) (by decide) (by decide)
    obtain ⟨b2, g2⟩ : ∃ z, z = h0.size := ⟨_, rfl⟩
    rw [← g2] at A2 D2 U2 st2
    refine OwnGoes.step (T' := T2) (g' := (mkF m 46 #[.val (.int p1), .val (.int p2), .val (.int c0), .val (.int c1), .val (.int c2), .val (.int c3)] [(.ref b2)])) st2 ?_
    have g_b2 : n0 ≤ b2 := Nat.le_trans (Nat.le_trans Z0 K0.1) (Nat.le_of_eq g2.symm)
    have s_b2 : h0.size ≤ b2 := Nat.le_trans K0.1 (Nat.le_of_eq g2.symm)
    have Sf2 : Safe Z consts_1 s.vm h2 b2 := Safe.ext E2 R0.1 (Safe.new (Nat.le_of_eq g2.symm))
    have Ol2 := X00.ext E2
    have K2 : Keep h0 h2 ([] : List Addr) := K0.ext E2
    have R2 := R0.trans (CHr.ext E2 R0.1)
    have hk2 := Nat.le_trans hk0 E2.1
    have F2_1 : Fld Z h2 b2 "java/lang/String" "value" "[B" .null := D2 (Or.inr (hw _ (List.mem_of_getElem? (i := 20) rfl))) (ty := (.array .byte)) (by decide)
    have F2_2 : Fld Z h2 b2 "java/lang/String" "coder" "B" (.int (0 : Int32)) := D2 (Or.inr (hw _ (List.mem_of_getElem? (i := 21) rfl))) (ty := .byte) (by decide)
    refine OwnGoes.step (T' := T2) (g' := (mkF m 48 #[.val (.int p1), .val (.int p2), .val (.int c0), .val (.int c1), .val (.int c2), .val (.int c3)] [(.int (0 : Int32)), (.ref b2), (.ref b2)])) (fun tgt kgo => ?_) ?_
    · show Steps p.tables e below (T2.setTop (mkF m 46 #[.val (.int p1), .val (.int p2), .val (.int c0), .val (.int c1), .val (.int c2), .val (.int c3)] [(.ref b2)])) tgt
      refine XS.dup X2.here hx rfl (hb hby dd_method_2_46) rfl rfl ?_
      show Steps p.tables e below (T2.setTop (mkF m 47 #[.val (.int p1), .val (.int p2), .val (.int c0), .val (.int c1), .val (.int c2), .val (.int c3)] [(.ref b2), (.ref b2)])) tgt
      refine XS.iconst X2.here hx rfl (hb hby dd_method_2_47) ?_
      exact kgo
    obtain ⟨T3, h3, k3, X3, e3, E3, A3, st3⟩ := newP X2 hx hZ (hw _ (List.mem_of_getElem? (i := 7) rfl)) e2 (g := (mkF m 48 #[.val (.int p1), .val (.int p2), .val (.int c0), .val (.int c1), .val (.int c2), .val (.int c3)] [(.int (0 : Int32)), (.ref b2), (.ref b2)])) rfl (hb hby dd_method_2_48) rfl (by decide) (cap := 0) (by decide) (by decide) (by decide) (by decide)
    obtain ⟨b3, g3⟩ : ∃ z, z = h2.size := ⟨_, rfl⟩
    rw [← g3] at A3 st3
    refine OwnGoes.step (T' := T3) (g' := (mkF m 50 #[.val (.int p1), .val (.int p2), .val (.int c0), .val (.int c1), .val (.int c2), .val (.int c3)] [(.ref b3), (.ref b2), (.ref b2)])) st3 ?_
    have V3 : Arv Z h3 b3 k3 .char (0 : Int32) [] (.int (0 : Int32)) := (Arv.new A3 (by decide)).pad (pad_rep [] (.int (0 : Int32)) 0)
    have ne_b2_b3 : b2 ≠ b3 := Nat.ne_of_lt (Nat.lt_of_lt_of_le A2.lt (Nat.le_of_eq g3.symm))
    have g_b3 : n0 ≤ b3 := Nat.le_trans (Nat.le_trans Z0 K2.1) (Nat.le_of_eq g3.symm)
    have s_b3 : h0.size ≤ b3 := Nat.le_trans K2.1 (Nat.le_of_eq g3.symm)
    have Sf3 : Safe Z consts_1 s.vm h3 b3 := Safe.ext E3 R2.1 (Safe.new (Nat.le_of_eq g3.symm))
    have F3_3 := Safe.ext E3 R2.1 Sf2
    have F3_4 := A2.ext E3
    have F3_5 := F2_1.ext E3
    have F3_6 := F2_2.ext E3
    have Ol3 := Ol2.ext E3
    have K3 : Keep h0 h3 ([] : List Addr) := K2.ext E3
    have R3 := R2.trans (CHr.ext E3 R2.1)
    have hk3 := Nat.le_trans hk2 E3.1
    obtain ⟨_, _, ⟨T4, L4, k4, n4⟩, -, X4, Si4, Gr4, ⟨Lc4, hQ4, l4, y4, z4, Rc4⟩, st4⟩ := X3.specialBackS hx (y := (⟨"java/lang/String", "<init>", "([C)V"⟩ : MethodName)) rfl hown (mvT hZ (hw _ (List.mem_of_getElem? (i := 8) rfl))) (mvT hZ (hw _ (List.mem_of_getElem? (i := 9) rfl))) (mvT hZ (hw _ (List.mem_of_getElem? (i := 10) rfl))) (by decide) (backOfSH (W := 1) (rm_si2e l Z a0 hw [] wG1 wO2 wP5 wG3 wO4 wrG3 hstr wG5 wK5 wO5 wV5 wG6 wO6 wE6 wF6 hEL h3 n0 Ol3 b2 b3 k3 F3_4 F3_5 F3_6 g_b2 V3) hZ (hw _ (List.mem_of_getElem? (i := 10) rfl)) (hw _ (List.mem_of_getElem? (i := 6) rfl)) (by decide) (by decide) hEL R3.1) (g := (mkF m 50 #[.val (.int p1), .val (.int p2), .val (.int c0), .val (.int c1), .val (.int c2), .val (.int c3)] [(.ref b3), (.ref b2), (.ref b2)])) rfl (by rw [hml]; rfl) (Steps.refl _) (a := b2) (argsL := [(.ref b3)]) (rest := [(.ref b2)]) (lenOf pd_68446664 rfl) rfl (by show 2 * 0 + _ ≤ _; exact Nat.le_of_eq rfl) (hb hby dd_method_2_50) (fun _ _ => ⟨rfl, e3, (by decide : 2 + 4 ≤ _), (by decide : 4 + 8 ≤ _)⟩)
    dsimp only [Pt.U, Pt.locs, Pt.cells, Pt.slots] at X4 l4 y4 z4 st4 hQ4 Si4 Gr4 Rc4
    subst l4 y4 z4
    obtain ⟨t_4, k_4, rfl, Nq4, Kq4, fq4_0, fq4_1, fq4_2, fq4_3⟩ := hQ4
    refine OwnGoes.tr (T' := T4) (g' := (mkF m 53 #[.val (.int p1), .val (.int p2), .val (.int c0), .val (.int c1), .val (.int c2), .val (.int c3)] [(.ref b2)])) st4 ?_
    have N4 := Fr.app N0 Nq4
    have gz4 : h3.size ≤ T4.heap.size := Rc4.2.1
    obtain ⟨X4, hS4, hZ4, ho4⟩ := rebS hS0 hk3 X4 Si4 gz4 hZ hown
    have F4_7 := Rc4.safe F3_4.lt F3_3
    have F4_8 := F3_4.keep Kq4
    have F4_9 := Rc4.safe V3.lt Sf3
    have F4_10 := V3.keep Kq4 (ninS (Ne.symm ne_b2_b3) nin0)
    have Ol4 := Ol3.keep Kq4 (allS g_b2 all0)
    have K4 : Keep h0 T4.heap ([] : List Addr) := K3.trans Kq4 (allS (Or.inr s_b2) all0)
    have R4 := R3.trans Rc4
    have ho : OwnStr ([] : List Int32) (0 : Int32) (0 : Int32) [] := own_str_lat (n := 0) rfl (by decide) own_mem0
    have hret : ∀ fs, (∀ (f : JFrame) (acts : List Action), f.method = m → f.locked = none → f.entered = [] → (doReturn e (T4.setTop f) acts (some (.ref b2))).1 = T4.setFrames fs) → Steps p.tables e below (T4.setTop (mkF m 53 #[.val (.int p1), .val (.int p2), .val (.int c0), .val (.int c1), .val (.int c2), .val (.int c3)] [(.ref b2)])) (T4.setFrames fs) := by
      intro fs hr
      jvm_step X4.here [X4.here.top, hx, (hb hby dd_method_2_53), X4.method', Bd.returns, Value.isRef, FieldType.isReference]
      first | (intro acts; rw [hr _ acts rfl rfl rfl]) | rw [hr _ _ rfl rfl rfl]
      exact Steps.refl _
    refine own_leaveW (Z := Z) (EL := consts_1) X4 hS4 (Nat.le_refl _) hlk (v := some (.ref b2)) (fun h => by rw [Bd.returns] at h; cases h) hret (by decide) (by decide) ?_ ?_
    · rw [hh]
      exact R4.trans (CHv.at X4 hZ4 hEL R4.1)
    show Q_str Z p1 p2 h0 n0 _ T4.heap _
    exact ⟨b2, t_4, k_4, (0 : Int32), [], ([] : List Int32), rfl, N4, K4, s_b2, fq4_0, fq4_1, fq4_2, fq4_3, ho, (Nat.le_of_ble_eq_true rfl)⟩
  · skip
    refine OwnGoes.step (T' := s₁) (g' := (mkF m 56 #[.val (.int p1), .val (.int p2), .val (.int c0), .val (.int c1), .val (.int c2), .val (.int c3)] [(.int (1 : Int32)), (.int p2)])) (fun tgt kgo => ?_) ?_
    · show Steps p.tables e below (s₁.setTop (mkF m 40 #[.val (.int p1), .val (.int p2), .val (.int c0), .val (.int c1), .val (.int c2), .val (.int c3)] [(.int p2)])) tgt
      refine XS.ifYes X0.here hx rfl (pc0 := 40) (pc' := 54) rfl (hb hby dd_method_2_40) rfl ((if0 _ _).trans (feq cc1).2) (by decide) (by decide) ?_
      show Steps p.tables e below (s₁.setTop (mkF m 54 #[.val (.int p1), .val (.int p2), .val (.int c0), .val (.int c1), .val (.int c2), .val (.int c3)] [])) tgt
      refine XS.iloadN X0.here hx rfl (hb hby dd_method_2_54) rfl ?_
      show Steps p.tables e below (s₁.setTop (mkF m 55 #[.val (.int p1), .val (.int p2), .val (.int c0), .val (.int c1), .val (.int c2), .val (.int c3)] [(.int p2)])) tgt
      refine XS.iconst X0.here hx rfl (hb hby dd_method_2_55) ?_
      exact kgo
    by_cases cc6 : p2 = (1 : Int32)
    · skip
      refine OwnGoes.step (T' := s₁) (g' := (mkF m 59 #[.val (.int p1), .val (.int p2), .val (.int c0), .val (.int c1), .val (.int c2), .val (.int c3)] [])) (fun tgt kgo => ?_) ?_
      · show Steps p.tables e below (s₁.setTop (mkF m 56 #[.val (.int p1), .val (.int p2), .val (.int c0), .val (.int c1), .val (.int c2), .val (.int c3)] [(.int (1 : Int32)), (.int p2)])) tgt
        refine XS.icmpNo X0.here hx rfl (hb hby dd_method_2_56) rfl (teq cc6).2 ?_
        exact kgo
      obtain ⟨T7, h7, X7, e7, E7, A7, D7, U7, st7⟩ := newO X0 hx hZ hown (hw _ (List.mem_of_getElem? (i := 4) rfl)) (hw _ (List.mem_of_getElem? (i := 5) rfl)) (hw _ (List.mem_of_getElem? (i := 6) rfl)) e0 (g := (mkF m 59 #[.val (.int p1), .val (.int p2), .val (.int c0), .val (.int c1), .val (.int c2), .val (.int c3)] [])) rfl (hb hby dd_method_2_59) (by decide) (by decide)
      obtain ⟨b7, g7⟩ : ∃ z, z = h0.size := ⟨_, rfl⟩
      rw [← g7] at A7 D7 U7 st7
      refine OwnGoes.step (T' := T7) (g' := (mkF m 62 #[.val (.int p1), .val (.int p2), .val (.int c0), .val (.int c1), .val (.int c2), .val (.int c3)] [(.ref b7)])) st7 ?_
      have g_b7 : n0 ≤ b7 := Nat.le_trans (Nat.le_trans Z0 K0.1) (Nat.le_of_eq g7.symm)
      have s_b7 : h0.size ≤ b7 := Nat.le_trans K0.1 (Nat.le_of_eq g7.symm)
      have Sf7 : Safe Z consts_1 s.vm h7 b7 := Safe.ext E7 R0.1 (Safe.new (Nat.le_of_eq g7.symm))
      have Ol7 := X00.ext E7
      have K7 : Keep h0 h7 ([] : List Addr) := K0.ext E7
      have R7 := R0.trans (CHr.ext E7 R0.1)
      have hk7 := Nat.le_trans hk0 E7.1
      have F7_11 : Fld Z h7 b7 "java/lang/String" "value" "[B" .null := D7 (Or.inr (hw _ (List.mem_of_getElem? (i := 20) rfl))) (ty := (.array .byte)) (by decide)
      have F7_12 : Fld Z h7 b7 "java/lang/String" "coder" "B" (.int (0 : Int32)) := D7 (Or.inr (hw _ (List.mem_of_getElem? (i := 21) rfl))) (ty := .byte) (by decide)
      refine OwnGoes.step (T' := T7) (g' := (mkF m 64 #[.val (.int p1), .val (.int p2), .val (.int c0), .val (.int c1), .val (.int c2), .val (.int c3)] [(.int (1 : Int32)), (.ref b7), (.ref b7)])) (fun tgt kgo => ?_) ?_
      · show Steps p.tables e below (T7.setTop (mkF m 62 #[.val (.int p1), .val (.int p2), .val (.int c0), .val (.int c1), .val (.int c2), .val (.int c3)] [(.ref b7)])) tgt
        refine XS.dup X7.here hx rfl (hb hby dd_method_2_62) rfl rfl ?_
        show Steps p.tables e below (T7.setTop (mkF m 63 #[.val (.int p1), .val (.int p2), .val (.int c0), .val (.int c1), .val (.int c2), .val (.int c3)] [(.ref b7), (.ref b7)])) tgt
        refine XS.iconst X7.here hx rfl (hb hby dd_method_2_63) ?_
        exact kgo
      obtain ⟨T8, h8, k8, X8, e8, E8, A8, st8⟩ := newP X7 hx hZ (hw _ (List.mem_of_getElem? (i := 7) rfl)) e7 (g := (mkF m 64 #[.val (.int p1), .val (.int p2), .val (.int c0), .val (.int c1), .val (.int c2), .val (.int c3)] [(.int (1 : Int32)), (.ref b7), (.ref b7)])) rfl (hb hby dd_method_2_64) rfl (by decide) (cap := 1) (by decide) (by decide) (by decide) (by decide)
      obtain ⟨b8, g8⟩ : ∃ z, z = h7.size := ⟨_, rfl⟩
      rw [← g8] at A8 st8
      refine OwnGoes.step (T' := T8) (g' := (mkF m 66 #[.val (.int p1), .val (.int p2), .val (.int c0), .val (.int c1), .val (.int c2), .val (.int c3)] [(.ref b8), (.ref b7), (.ref b7)])) st8 ?_
      have V8 : Arv Z h8 b8 k8 .char (1 : Int32) [(.int (0 : Int32))] (.int (0 : Int32)) := (Arv.new A8 (by decide)).pad (pad_rep [] (.int (0 : Int32)) 1)
      have ne_b7_b8 : b7 ≠ b8 := Nat.ne_of_lt (Nat.lt_of_lt_of_le A7.lt (Nat.le_of_eq g8.symm))
      have g_b8 : n0 ≤ b8 := Nat.le_trans (Nat.le_trans Z0 K7.1) (Nat.le_of_eq g8.symm)
      have s_b8 : h0.size ≤ b8 := Nat.le_trans K7.1 (Nat.le_of_eq g8.symm)
      have Sf8 : Safe Z consts_1 s.vm h8 b8 := Safe.ext E8 R7.1 (Safe.new (Nat.le_of_eq g8.symm))
      have F8_13 := Safe.ext E8 R7.1 Sf7
      have F8_14 := A7.ext E8
      have F8_15 := F7_11.ext E8
      have F8_16 := F7_12.ext E8
      have Ol8 := Ol7.ext E8
      have K8 : Keep h0 h8 ([] : List Addr) := K7.ext E8
      have R8 := R7.trans (CHr.ext E8 R7.1)
      have hk8 := Nat.le_trans hk7 E8.1
      refine OwnGoes.step (T' := T8) (g' := (mkF m 69 #[.val (.int p1), .val (.int p2), .val (.int c0), .val (.int c1), .val (.int c2), .val (.int c3)] [(.int c0), (.int (0 : Int32)), (.ref b8), (.ref b8), (.ref b7), (.ref b7)])) (fun tgt kgo => ?_) ?_
      · show Steps p.tables e below (T8.setTop (mkF m 66 #[.val (.int p1), .val (.int p2), .val (.int c0), .val (.int c1), .val (.int c2), .val (.int c3)] [(.ref b8), (.ref b7), (.ref b7)])) tgt
        refine XS.dup X8.here hx rfl (hb hby dd_method_2_66) rfl rfl ?_
        show Steps p.tables e below (T8.setTop (mkF m 67 #[.val (.int p1), .val (.int p2), .val (.int c0), .val (.int c1), .val (.int c2), .val (.int c3)] [(.ref b8), (.ref b8), (.ref b7), (.ref b7)])) tgt
        refine XS.iconst X8.here hx rfl (hb hby dd_method_2_67) ?_
        show Steps p.tables e below (T8.setTop (mkF m 68 #[.val (.int p1), .val (.int p2), .val (.int c0), .val (.int c1), .val (.int c2), .val (.int c3)] [(.int (0 : Int32)), (.ref b8), (.ref b8), (.ref b7), (.ref b7)])) tgt
        refine XS.iloadN X8.here hx rfl (hb hby dd_method_2_68) rfl ?_
        exact kgo
      obtain ⟨cl9, Ar9, q9, S9, M9, H9, G9⟩ := id V8
      obtain ⟨T9, h9, X9, e9, W9, st9⟩ := stC X8 hx hZ e8 Ar9 (j := (0 : Int32)) (inb_of S9 ⟨by decide, by decide⟩) (g := (mkF m 69 #[.val (.int p1), .val (.int p2), .val (.int c0), .val (.int c1), .val (.int c2), .val (.int c3)] [(.int c0), (.int (0 : Int32)), (.ref b8), (.ref b8), (.ref b7), (.ref b7)])) rfl rfl (hb hby dd_method_2_69)
      refine OwnGoes.step (T' := T9) (g' := (mkF m 70 #[.val (.int p1), .val (.int p2), .val (.int c0), .val (.int c1), .val (.int c2), .val (.int c3)] [(.ref b8), (.ref b7), (.ref b7)])) st9 ?_
      have V9 : Arv Z h9 b8 k8 .char (1 : Int32) [(.int (nar .char c0))] (.int (0 : Int32)) := Arv.set Ar9 q9 S9 M9 H9 G9 (fits_nar_char _) W9 0 rfl (Nat.le_of_ble_eq_true rfl)
      rw [(own_nar_lat hl_c0)] at V9
      have V9' : Arv Z h9 b8 k8 .char (1 : Int32) [(.int c0)] (.int (0 : Int32)) := V9
      have F9_17 := Safe.wr W9 Sf8 R8.1 F8_13
      have F9_18 := F8_14.wr W9
      have F9_19 := F8_15.other W9 (Or.inl ne_b7_b8)
      have F9_20 := F8_16.other W9 (Or.inl ne_b7_b8)
      have F9_21 := Safe.wr W9 Sf8 R8.1 Sf8
      have Ol9 := Ol8.wr W9 g_b8
      have K9 : Keep h0 h9 ([] : List Addr) := K8.wr W9 (Or.inr s_b8)
      have R9 := R8.trans (CHr.wr W9 Sf8 R8.1)
      have hk9 := Nat.le_trans hk8 (Keep.of_wr W9).1
      have N9 := Fr.snoc X9 N0 g_b8
      have hp11 : ∀ c ∈ ([c0] : List Int32), ¬ c < 0 ∧ ¬ (255 : Int32) < c := (own_memS hl_c0 own_mem0)
      have V11c : Arv Z h9 b8 k8 .char (1 : Int32) (([c0] : List Int32).map Value.int) (.int (0 : Int32)) := V9'
      obtain ⟨_, _, ⟨T10, L10, k10, n10⟩, -, X10, ⟨Lc10, hQ10, l10, y10, z10⟩, st10⟩ := X9.specialBack hx (y := (⟨"java/lang/String", "<init>", "([C)V"⟩ : MethodName)) rfl hown (mvT hZ (hw _ (List.mem_of_getElem? (i := 8) rfl))) (mvT hZ (hw _ (List.mem_of_getElem? (i := 9) rfl))) (mvT hZ (hw _ (List.mem_of_getElem? (i := 10) rfl))) (by decide) (StrChars.Road.backV (W := 1) hZ (fun d hd => hw d (own_hws d hd)) (kI := 4) (hw _ (List.mem_of_getElem? (i := 5) rfl)) (cs := ([c0] : List Int32)) (bs := ([c0] : List Int32).map (fun c => c.toInt8.toInt32)) (n := 1) g_b7 (Nat.le_trans Z0 K9.1) F9_18 F9_19 F9_20 V11c (wO2.ext Ol9.2) wP5 rfl rfl (by decide) (by decide) hp11 rfl (by decide) (by decide)) (g := (mkF m 70 #[.val (.int p1), .val (.int p2), .val (.int c0), .val (.int c1), .val (.int c2), .val (.int c3)] [(.ref b8), (.ref b7), (.ref b7)])) rfl (by rw [hml]; rfl) (Steps.refl _) (a := b7) (argsL := [(.ref b8)]) (rest := [(.ref b7)]) (lenOf pd_68446664 rfl) rfl (by show 2 * 0 + _ ≤ _; exact Nat.le_of_eq rfl) (hb hby dd_method_2_70) (fun _ _ => ⟨rfl, e9, (by decide : 2 + 1 ≤ _), (by decide : 5 + 1 ≤ _)⟩)
      dsimp only [Pt.U, Pt.locs, Pt.cells, Pt.slots] at X10 l10 y10 z10 st10 hQ10
      subst l10 y10 z10
      obtain ⟨rfl, Nq10, Kq10, fe10, fc10, t10, kb10, ut10, vt10, wt10, fv10, fa10⟩ := hQ10
      refine OwnGoes.tr (T' := T10) (g' := (mkF m 73 #[.val (.int p1), .val (.int p2), .val (.int c0), .val (.int c1), .val (.int c2), .val (.int c3)] [(.ref b7)])) st10 ?_
      have N10 := Fr.app N9 Nq10
      have ne_b7_t10 : b7 ≠ t10 := Nat.ne_of_lt (Nat.lt_of_lt_of_le F9_18.lt vt10)
      have ne_b8_t10 : b8 ≠ t10 := Nat.ne_of_lt (Nat.lt_of_lt_of_le V9'.lt vt10)
      have g_t10 : n0 ≤ t10 := Nat.le_trans (Nat.le_trans Z0 K9.1) vt10
      have s_t10 : h0.size ≤ t10 := Nat.le_trans K9.1 vt10
      have Sf10 : Safe Z consts_1 s.vm T10.heap t10 := Safe.keep Kq10 (sfS F9_17 sf0) R9.1 (Safe.new vt10)
      have F10_22 := Safe.keep Kq10 (sfS F9_17 sf0) R9.1 F9_17
      have F10_23 := F9_18.keep Kq10
      have F10_24 := Safe.keep Kq10 (sfS F9_17 sf0) R9.1 F9_21
      have F10_25 := V9'.keep Kq10 (ninS (Ne.symm ne_b7_b8) nin0)
      have Ol10 := Ol9.keep Kq10 (allS g_b7 all0)
      have K10 : Keep h0 T10.heap ([] : List Addr) := K9.trans Kq10 (allS (Or.inr s_b7) all0)
      have R10 := R9.trans (CHr.keep Kq10 (sfS F9_17 sf0) R9.1)
      have hk10 := Nat.le_trans hk9 Kq10.1
      have ho : OwnStr ([c0] : List Int32) (0 : Int32) (1 : Int32) ((([c0] : List Int32).map (fun c => c.toInt8.toInt32)).map Value.int) := own_str_lat (n := 1) rfl (by decide) hp11
      have hret : ∀ fs, (∀ (f : JFrame) (acts : List Action), f.method = m → f.locked = none → f.entered = [] → (doReturn e (T10.setTop f) acts (some (.ref b7))).1 = T10.setFrames fs) → Steps p.tables e below (T10.setTop (mkF m 73 #[.val (.int p1), .val (.int p2), .val (.int c0), .val (.int c1), .val (.int c2), .val (.int c3)] [(.ref b7)])) (T10.setFrames fs) := by
        intro fs hr
        jvm_step X10.here [X10.here.top, hx, (hb hby dd_method_2_73), X10.method', Bd.returns, Value.isRef, FieldType.isReference]
        first | (intro acts; rw [hr _ acts rfl rfl rfl]) | rw [hr _ _ rfl rfl rfl]
        exact Steps.refl _
      refine own_leaveW (Z := Z) (EL := consts_1) X10 hS0 hk10 hlk (v := some (.ref b7)) (fun h => by rw [Bd.returns] at h; cases h) hret (by decide) (by decide) ?_ ?_
      · rw [hh]
        exact R10.trans (CHv.at X10 hZ hEL R10.1)
      show Q_str Z p1 p2 h0 n0 _ T10.heap _
      exact ⟨b7, t10, kb10, (1 : Int32), ((([c0] : List Int32).map (fun c => c.toInt8.toInt32)).map Value.int), ([c0] : List Int32), rfl, N10, K10, s_b7, fe10, fv10, fc10, fa10, ho, (Nat.le_of_ble_eq_true rfl)⟩
    · skip
      refine OwnGoes.step (T' := s₁) (g' := (mkF m 76 #[.val (.int p1), .val (.int p2), .val (.int c0), .val (.int c1), .val (.int c2), .val (.int c3)] [(.int (2 : Int32)), (.int p2)])) (fun tgt kgo => ?_) ?_
      · show Steps p.tables e below (s₁.setTop (mkF m 56 #[.val (.int p1), .val (.int p2), .val (.int c0), .val (.int c1), .val (.int c2), .val (.int c3)] [(.int (1 : Int32)), (.int p2)])) tgt
        refine XS.icmpYes X0.here hx rfl (pc0 := 56) (pc' := 74) rfl (hb hby dd_method_2_56) rfl (feq cc6).2 (by decide) (by decide) ?_
        show Steps p.tables e below (s₁.setTop (mkF m 74 #[.val (.int p1), .val (.int p2), .val (.int c0), .val (.int c1), .val (.int c2), .val (.int c3)] [])) tgt
        refine XS.iloadN X0.here hx rfl (hb hby dd_method_2_74) rfl ?_
        show Steps p.tables e below (s₁.setTop (mkF m 75 #[.val (.int p1), .val (.int p2), .val (.int c0), .val (.int c1), .val (.int c2), .val (.int c3)] [(.int p2)])) tgt
        refine XS.iconst X0.here hx rfl (hb hby dd_method_2_75) ?_
        exact kgo
      by_cases cc13 : p2 = (2 : Int32)
      · skip
        refine OwnGoes.step (T' := s₁) (g' := (mkF m 79 #[.val (.int p1), .val (.int p2), .val (.int c0), .val (.int c1), .val (.int c2), .val (.int c3)] [])) (fun tgt kgo => ?_) ?_
        · show Steps p.tables e below (s₁.setTop (mkF m 76 #[.val (.int p1), .val (.int p2), .val (.int c0), .val (.int c1), .val (.int c2), .val (.int c3)] [(.int (2 : Int32)), (.int p2)])) tgt
          refine XS.icmpNo X0.here hx rfl (hb hby dd_method_2_76) rfl (teq cc13).2 ?_
          exact kgo
        obtain ⟨T14, h14, X14, e14, E14, A14, D14, U14, st14⟩ := newO X0 hx hZ hown (hw _ (List.mem_of_getElem? (i := 4) rfl)) (hw _ (List.mem_of_getElem? (i := 5) rfl)) (hw _ (List.mem_of_getElem? (i := 6) rfl)) e0 (g := (mkF m 79 #[.val (.int p1), .val (.int p2), .val (.int c0), .val (.int c1), .val (.int c2), .val (.int c3)] [])) rfl (hb hby dd_method_2_79) (by decide) (by decide)
        obtain ⟨b14, g14⟩ : ∃ z, z = h0.size := ⟨_, rfl⟩
        rw [← g14] at A14 D14 U14 st14
        refine OwnGoes.step (T' := T14) (g' := (mkF m 82 #[.val (.int p1), .val (.int p2), .val (.int c0), .val (.int c1), .val (.int c2), .val (.int c3)] [(.ref b14)])) st14 ?_
        have g_b14 : n0 ≤ b14 := Nat.le_trans (Nat.le_trans Z0 K0.1) (Nat.le_of_eq g14.symm)
        have s_b14 : h0.size ≤ b14 := Nat.le_trans K0.1 (Nat.le_of_eq g14.symm)
        have Sf14 : Safe Z consts_1 s.vm h14 b14 := Safe.ext E14 R0.1 (Safe.new (Nat.le_of_eq g14.symm))
        have Ol14 := X00.ext E14
        have K14 : Keep h0 h14 ([] : List Addr) := K0.ext E14
        have R14 := R0.trans (CHr.ext E14 R0.1)
        have hk14 := Nat.le_trans hk0 E14.1
        have F14_26 : Fld Z h14 b14 "java/lang/String" "value" "[B" .null := D14 (Or.inr (hw _ (List.mem_of_getElem? (i := 20) rfl))) (ty := (.array .byte)) (by decide)
        have F14_27 : Fld Z h14 b14 "java/lang/String" "coder" "B" (.int (0 : Int32)) := D14 (Or.inr (hw _ (List.mem_of_getElem? (i := 21) rfl))) (ty := .byte) (by decide)
        refine OwnGoes.step (T' := T14) (g' := (mkF m 84 #[.val (.int p1), .val (.int p2), .val (.int c0), .val (.int c1), .val (.int c2), .val (.int c3)] [(.int (2 : Int32)), (.ref b14), (.ref b14)])) (fun tgt kgo => ?_) ?_
        · show Steps p.tables e below (T14.setTop (mkF m 82 #[.val (.int p1), .val (.int p2), .val (.int c0), .val (.int c1), .val (.int c2), .val (.int c3)] [(.ref b14)])) tgt
          refine XS.dup X14.here hx rfl (hb hby dd_method_2_82) rfl rfl ?_
          show Steps p.tables e below (T14.setTop (mkF m 83 #[.val (.int p1), .val (.int p2), .val (.int c0), .val (.int c1), .val (.int c2), .val (.int c3)] [(.ref b14), (.ref b14)])) tgt
          refine XS.iconst X14.here hx rfl (hb hby dd_method_2_83) ?_
          exact kgo
        obtain ⟨T15, h15, k15, X15, e15, E15, A15, st15⟩ := newP X14 hx hZ (hw _ (List.mem_of_getElem? (i := 7) rfl)) e14 (g := (mkF m 84 #[.val (.int p1), .val (.int p2), .val (.int c0), .val (.int c1), .val (.int c2), .val (.int c3)] [(.int (2 : Int32)), (.ref b14), (.ref b14)])) rfl (hb hby dd_method_2_84) rfl (by decide) (cap := 2) (by decide) (by decide) (by decide) (by decide)
        obtain ⟨b15, g15⟩ : ∃ z, z = h14.size := ⟨_, rfl⟩
        rw [← g15] at A15 st15
        refine OwnGoes.step (T' := T15) (g' := (mkF m 86 #[.val (.int p1), .val (.int p2), .val (.int c0), .val (.int c1), .val (.int c2), .val (.int c3)] [(.ref b15), (.ref b14), (.ref b14)])) st15 ?_
        have V15 : Arv Z h15 b15 k15 .char (2 : Int32) [(.int (0 : Int32)), (.int (0 : Int32))] (.int (0 : Int32)) := (Arv.new A15 (by decide)).pad (pad_rep [] (.int (0 : Int32)) 2)
        have ne_b14_b15 : b14 ≠ b15 := Nat.ne_of_lt (Nat.lt_of_lt_of_le A14.lt (Nat.le_of_eq g15.symm))
        have g_b15 : n0 ≤ b15 := Nat.le_trans (Nat.le_trans Z0 K14.1) (Nat.le_of_eq g15.symm)
        have s_b15 : h0.size ≤ b15 := Nat.le_trans K14.1 (Nat.le_of_eq g15.symm)
        have Sf15 : Safe Z consts_1 s.vm h15 b15 := Safe.ext E15 R14.1 (Safe.new (Nat.le_of_eq g15.symm))
        have F15_28 := Safe.ext E15 R14.1 Sf14
        have F15_29 := A14.ext E15
        have F15_30 := F14_26.ext E15
        have F15_31 := F14_27.ext E15
        have Ol15 := Ol14.ext E15
        have K15 : Keep h0 h15 ([] : List Addr) := K14.ext E15
        have R15 := R14.trans (CHr.ext E15 R14.1)
        have hk15 := Nat.le_trans hk14 E15.1
        refine OwnGoes.step (T' := T15) (g' := (mkF m 89 #[.val (.int p1), .val (.int p2), .val (.int c0), .val (.int c1), .val (.int c2), .val (.int c3)] [(.int c0), (.int (0 : Int32)), (.ref b15), (.ref b15), (.ref b14), (.ref b14)])) (fun tgt kgo => ?_) ?_
        · show Steps p.tables e below (T15.setTop (mkF m 86 #[.val (.int p1), .val (.int p2), .val (.int c0), .val (.int c1), .val (.int c2), .val (.int c3)] [(.ref b15), (.ref b14), (.ref b14)])) tgt
          refine XS.dup X15.here hx rfl (hb hby dd_method_2_86) rfl rfl ?_
          show Steps p.tables e below (T15.setTop (mkF m 87 #[.val (.int p1), .val (.int p2), .val (.int c0), .val (.int c1), .val (.int c2), .val (.int c3)] [(.ref b15), (.ref b15), (.ref b14), (.ref b14)])) tgt
          refine XS.iconst X15.here hx rfl (hb hby dd_method_2_87) ?_
          show Steps p.tables e below (T15.setTop (mkF m 88 #[.val (.int p1), .val (.int p2), .val (.int c0), .val (.int c1), .val (.int c2), .val (.int c3)] [(.int (0 : Int32)), (.ref b15), (.ref b15), (.ref b14), (.ref b14)])) tgt
          refine XS.iloadN X15.here hx rfl (hb hby dd_method_2_88) rfl ?_
          exact kgo
        obtain ⟨cl16, Ar16, q16, S16, M16, H16, G16⟩ := id V15
        obtain ⟨T16, h16, X16, e16, W16, st16⟩ := stC X15 hx hZ e15 Ar16 (j := (0 : Int32)) (inb_of S16 ⟨by decide, by decide⟩) (g := (mkF m 89 #[.val (.int p1), .val (.int p2), .val (.int c0), .val (.int c1), .val (.int c2), .val (.int c3)] [(.int c0), (.int (0 : Int32)), (.ref b15), (.ref b15), (.ref b14), (.ref b14)])) rfl rfl (hb hby dd_method_2_89)
        refine OwnGoes.step (T' := T16) (g' := (mkF m 90 #[.val (.int p1), .val (.int p2), .val (.int c0), .val (.int c1), .val (.int c2), .val (.int c3)] [(.ref b15), (.ref b14), (.ref b14)])) st16 ?_
        have V16 : Arv Z h16 b15 k15 .char (2 : Int32) [(.int (nar .char c0)), (.int (0 : Int32))] (.int (0 : Int32)) := Arv.set Ar16 q16 S16 M16 H16 G16 (fits_nar_char _) W16 0 rfl (Nat.le_of_ble_eq_true rfl)
        rw [(own_nar_lat hl_c0)] at V16
        have V16' : Arv Z h16 b15 k15 .char (2 : Int32) [(.int c0), (.int (0 : Int32))] (.int (0 : Int32)) := V16
        have F16_32 := Safe.wr W16 Sf15 R15.1 F15_28
        have F16_33 := F15_29.wr W16
        have F16_34 := F15_30.other W16 (Or.inl ne_b14_b15)
        have F16_35 := F15_31.other W16 (Or.inl ne_b14_b15)
        have F16_36 := Safe.wr W16 Sf15 R15.1 Sf15
        have Ol16 := Ol15.wr W16 g_b15
        have K16 : Keep h0 h16 ([] : List Addr) := K15.wr W16 (Or.inr s_b15)
        have R16 := R15.trans (CHr.wr W16 Sf15 R15.1)
        have hk16 := Nat.le_trans hk15 (Keep.of_wr W16).1
        have N16 := Fr.snoc X16 N0 g_b15
        refine OwnGoes.step (T' := T16) (g' := (mkF m 93 #[.val (.int p1), .val (.int p2), .val (.int c0), .val (.int c1), .val (.int c2), .val (.int c3)] [(.int c1), (.int (1 : Int32)), (.ref b15), (.ref b15), (.ref b14), (.ref b14)])) (fun tgt kgo => ?_) ?_
        · show Steps p.tables e below (T16.setTop (mkF m 90 #[.val (.int p1), .val (.int p2), .val (.int c0), .val (.int c1), .val (.int c2), .val (.int c3)] [(.ref b15), (.ref b14), (.ref b14)])) tgt
          refine XS.dup X16.here hx rfl (hb hby dd_method_2_90) rfl rfl ?_
          show Steps p.tables e below (T16.setTop (mkF m 91 #[.val (.int p1), .val (.int p2), .val (.int c0), .val (.int c1), .val (.int c2), .val (.int c3)] [(.ref b15), (.ref b15), (.ref b14), (.ref b14)])) tgt
          refine XS.iconst X16.here hx rfl (hb hby dd_method_2_91) ?_
          show Steps p.tables e below (T16.setTop (mkF m 92 #[.val (.int p1), .val (.int p2), .val (.int c0), .val (.int c1), .val (.int c2), .val (.int c3)] [(.int (1 : Int32)), (.ref b15), (.ref b15), (.ref b14), (.ref b14)])) tgt
          refine XS.iloadN X16.here hx rfl (hb hby dd_method_2_92) rfl ?_
          exact kgo
        obtain ⟨cl17, Ar17, q17, S17, M17, H17, G17⟩ := id V16'
        obtain ⟨T17, h17, X17, e17, W17, st17⟩ := stC X16 hx hZ e16 Ar17 (j := (1 : Int32)) (inb_of S17 ⟨by decide, by decide⟩) (g := (mkF m 93 #[.val (.int p1), .val (.int p2), .val (.int c0), .val (.int c1), .val (.int c2), .val (.int c3)] [(.int c1), (.int (1 : Int32)), (.ref b15), (.ref b15), (.ref b14), (.ref b14)])) rfl rfl (hb hby dd_method_2_93)
        refine OwnGoes.step (T' := T17) (g' := (mkF m 94 #[.val (.int p1), .val (.int p2), .val (.int c0), .val (.int c1), .val (.int c2), .val (.int c3)] [(.ref b15), (.ref b14), (.ref b14)])) st17 ?_
        have V17 : Arv Z h17 b15 k15 .char (2 : Int32) [(.int c0), (.int (nar .char c1))] (.int (0 : Int32)) := Arv.set Ar17 q17 S17 M17 H17 G17 (fits_nar_char _) W17 1 rfl (Nat.le_of_ble_eq_true rfl)
        rw [(own_nar_lat hl_c1)] at V17
        have V17' : Arv Z h17 b15 k15 .char (2 : Int32) [(.int c0), (.int c1)] (.int (0 : Int32)) := V17
        have F17_37 := Safe.wr W17 F16_36 R16.1 F16_32
        have F17_38 := F16_33.wr W17
        have F17_39 := F16_34.other W17 (Or.inl ne_b14_b15)
        have F17_40 := F16_35.other W17 (Or.inl ne_b14_b15)
        have F17_41 := Safe.wr W17 F16_36 R16.1 F16_36
        have Ol17 := Ol16.wr W17 g_b15
        have K17 : Keep h0 h17 ([] : List Addr) := K16.wr W17 (Or.inr s_b15)
        have R17 := R16.trans (CHr.wr W17 F16_36 R16.1)
        have hk17 := Nat.le_trans hk16 (Keep.of_wr W17).1
        have N17 := Fr.snoc X17 N16 g_b15
        have hp19 : ∀ c ∈ ([c0, c1] : List Int32), ¬ c < 0 ∧ ¬ (255 : Int32) < c := (own_memS hl_c0 (own_memS hl_c1 own_mem0))
        have V19c : Arv Z h17 b15 k15 .char (2 : Int32) (([c0, c1] : List Int32).map Value.int) (.int (0 : Int32)) := V17'
        obtain ⟨_, _, ⟨T18, L18, k18, n18⟩, -, X18, ⟨Lc18, hQ18, l18, y18, z18⟩, st18⟩ := X17.specialBack hx (y := (⟨"java/lang/String", "<init>", "([C)V"⟩ : MethodName)) rfl hown (mvT hZ (hw _ (List.mem_of_getElem? (i := 8) rfl))) (mvT hZ (hw _ (List.mem_of_getElem? (i := 9) rfl))) (mvT hZ (hw _ (List.mem_of_getElem? (i := 10) rfl))) (by decide) (StrChars.Road.backV (W := 1) hZ (fun d hd => hw d (own_hws d hd)) (kI := 4) (hw _ (List.mem_of_getElem? (i := 5) rfl)) (cs := ([c0, c1] : List Int32)) (bs := ([c0, c1] : List Int32).map (fun c => c.toInt8.toInt32)) (n := 2) g_b14 (Nat.le_trans Z0 K17.1) F17_38 F17_39 F17_40 V19c (wO2.ext Ol17.2) wP5 rfl rfl (by decide) (by decide) hp19 rfl (by decide) (by decide)) (g := (mkF m 94 #[.val (.int p1), .val (.int p2), .val (.int c0), .val (.int c1), .val (.int c2), .val (.int c3)] [(.ref b15), (.ref b14), (.ref b14)])) rfl (by rw [hml]; rfl) (Steps.refl _) (a := b14) (argsL := [(.ref b15)]) (rest := [(.ref b14)]) (lenOf pd_68446664 rfl) rfl (by show 2 * 0 + _ ≤ _; exact Nat.le_of_eq rfl) (hb hby dd_method_2_94) (fun _ _ => ⟨rfl, e17, (by decide : 2 + 1 ≤ _), (by decide : 6 + 2 ≤ _)⟩)
        dsimp only [Pt.U, Pt.locs, Pt.cells, Pt.slots] at X18 l18 y18 z18 st18 hQ18
        subst l18 y18 z18
        obtain ⟨rfl, Nq18, Kq18, fe18, fc18, t18, kb18, ut18, vt18, wt18, fv18, fa18⟩ := hQ18
        refine OwnGoes.tr (T' := T18) (g' := (mkF m 97 #[.val (.int p1), .val (.int p2), .val (.int c0), .val (.int c1), .val (.int c2), .val (.int c3)] [(.ref b14)])) st18 ?_
        have N18 := Fr.app N17 Nq18
        have ne_b14_t18 : b14 ≠ t18 := Nat.ne_of_lt (Nat.lt_of_lt_of_le F17_38.lt vt18)
        have ne_b15_t18 : b15 ≠ t18 := Nat.ne_of_lt (Nat.lt_of_lt_of_le V17'.lt vt18)
        have g_t18 : n0 ≤ t18 := Nat.le_trans (Nat.le_trans Z0 K17.1) vt18
        have s_t18 : h0.size ≤ t18 := Nat.le_trans K17.1 vt18
        have Sf18 : Safe Z consts_1 s.vm T18.heap t18 := Safe.keep Kq18 (sfS F17_37 sf0) R17.1 (Safe.new vt18)
        have F18_42 := Safe.keep Kq18 (sfS F17_37 sf0) R17.1 F17_37
        have F18_43 := F17_38.keep Kq18
        have F18_44 := Safe.keep Kq18 (sfS F17_37 sf0) R17.1 F17_41
        have F18_45 := V17'.keep Kq18 (ninS (Ne.symm ne_b14_b15) nin0)
        have Ol18 := Ol17.keep Kq18 (allS g_b14 all0)
        have K18 : Keep h0 T18.heap ([] : List Addr) := K17.trans Kq18 (allS (Or.inr s_b14) all0)
        have R18 := R17.trans (CHr.keep Kq18 (sfS F17_37 sf0) R17.1)
        have hk18 := Nat.le_trans hk17 Kq18.1
        have ho : OwnStr ([c0, c1] : List Int32) (0 : Int32) (2 : Int32) ((([c0, c1] : List Int32).map (fun c => c.toInt8.toInt32)).map Value.int) := own_str_lat (n := 2) rfl (by decide) hp19
        have hret : ∀ fs, (∀ (f : JFrame) (acts : List Action), f.method = m → f.locked = none → f.entered = [] → (doReturn e (T18.setTop f) acts (some (.ref b14))).1 = T18.setFrames fs) → Steps p.tables e below (T18.setTop (mkF m 97 #[.val (.int p1), .val (.int p2), .val (.int c0), .val (.int c1), .val (.int c2), .val (.int c3)] [(.ref b14)])) (T18.setFrames fs) := by
          intro fs hr
          jvm_step X18.here [X18.here.top, hx, (hb hby dd_method_2_97), X18.method', Bd.returns, Value.isRef, FieldType.isReference]
          first | (intro acts; rw [hr _ acts rfl rfl rfl]) | rw [hr _ _ rfl rfl rfl]
          exact Steps.refl _
        refine own_leaveW (Z := Z) (EL := consts_1) X18 hS0 hk18 hlk (v := some (.ref b14)) (fun h => by rw [Bd.returns] at h; cases h) hret (by decide) (by decide) ?_ ?_
        · rw [hh]
          exact R18.trans (CHv.at X18 hZ hEL R18.1)
        show Q_str Z p1 p2 h0 n0 _ T18.heap _
        exact ⟨b14, t18, kb18, (2 : Int32), ((([c0, c1] : List Int32).map (fun c => c.toInt8.toInt32)).map Value.int), ([c0, c1] : List Int32), rfl, N18, K18, s_b14, fe18, fv18, fc18, fa18, ho, (Nat.le_of_ble_eq_true rfl)⟩
      · skip
        refine OwnGoes.step (T' := s₁) (g' := (mkF m 100 #[.val (.int p1), .val (.int p2), .val (.int c0), .val (.int c1), .val (.int c2), .val (.int c3)] [(.int (3 : Int32)), (.int p2)])) (fun tgt kgo => ?_) ?_
        · show Steps p.tables e below (s₁.setTop (mkF m 76 #[.val (.int p1), .val (.int p2), .val (.int c0), .val (.int c1), .val (.int c2), .val (.int c3)] [(.int (2 : Int32)), (.int p2)])) tgt
          refine XS.icmpYes X0.here hx rfl (pc0 := 76) (pc' := 98) rfl (hb hby dd_method_2_76) rfl (feq cc13).2 (by decide) (by decide) ?_
          show Steps p.tables e below (s₁.setTop (mkF m 98 #[.val (.int p1), .val (.int p2), .val (.int c0), .val (.int c1), .val (.int c2), .val (.int c3)] [])) tgt
          refine XS.iloadN X0.here hx rfl (hb hby dd_method_2_98) rfl ?_
          show Steps p.tables e below (s₁.setTop (mkF m 99 #[.val (.int p1), .val (.int p2), .val (.int c0), .val (.int c1), .val (.int c2), .val (.int c3)] [(.int p2)])) tgt
          refine XS.iconst X0.here hx rfl (hb hby dd_method_2_99) ?_
          exact kgo
        by_cases cc21 : p2 = (3 : Int32)
        · skip
          refine OwnGoes.step (T' := s₁) (g' := (mkF m 103 #[.val (.int p1), .val (.int p2), .val (.int c0), .val (.int c1), .val (.int c2), .val (.int c3)] [])) (fun tgt kgo => ?_) ?_
          · show Steps p.tables e below (s₁.setTop (mkF m 100 #[.val (.int p1), .val (.int p2), .val (.int c0), .val (.int c1), .val (.int c2), .val (.int c3)] [(.int (3 : Int32)), (.int p2)])) tgt
            refine XS.icmpNo X0.here hx rfl (hb hby dd_method_2_100) rfl (teq cc21).2 ?_
            exact kgo
          obtain ⟨T22, h22, X22, e22, E22, A22, D22, U22, st22⟩ := newO X0 hx hZ hown (hw _ (List.mem_of_getElem? (i := 4) rfl)) (hw _ (List.mem_of_getElem? (i := 5) rfl)) (hw _ (List.mem_of_getElem? (i := 6) rfl)) e0 (g := (mkF m 103 #[.val (.int p1), .val (.int p2), .val (.int c0), .val (.int c1), .val (.int c2), .val (.int c3)] [])) rfl (hb hby dd_method_2_103) (by decide) (by decide)
          obtain ⟨b22, g22⟩ : ∃ z, z = h0.size := ⟨_, rfl⟩
          rw [← g22] at A22 D22 U22 st22
          refine OwnGoes.step (T' := T22) (g' := (mkF m 106 #[.val (.int p1), .val (.int p2), .val (.int c0), .val (.int c1), .val (.int c2), .val (.int c3)] [(.ref b22)])) st22 ?_
          have g_b22 : n0 ≤ b22 := Nat.le_trans (Nat.le_trans Z0 K0.1) (Nat.le_of_eq g22.symm)
          have s_b22 : h0.size ≤ b22 := Nat.le_trans K0.1 (Nat.le_of_eq g22.symm)
          have Sf22 : Safe Z consts_1 s.vm h22 b22 := Safe.ext E22 R0.1 (Safe.new (Nat.le_of_eq g22.symm))
          have Ol22 := X00.ext E22
          have K22 : Keep h0 h22 ([] : List Addr) := K0.ext E22
          have R22 := R0.trans (CHr.ext E22 R0.1)
          have hk22 := Nat.le_trans hk0 E22.1
          have F22_46 : Fld Z h22 b22 "java/lang/String" "value" "[B" .null := D22 (Or.inr (hw _ (List.mem_of_getElem? (i := 20) rfl))) (ty := (.array .byte)) (by decide)
          have F22_47 : Fld Z h22 b22 "java/lang/String" "coder" "B" (.int (0 : Int32)) := D22 (Or.inr (hw _ (List.mem_of_getElem? (i := 21) rfl))) (ty := .byte) (by decide)
          refine OwnGoes.step (T' := T22) (g' := (mkF m 108 #[.val (.int p1), .val (.int p2), .val (.int c0), .val (.int c1), .val (.int c2), .val (.int c3)] [(.int (3 : Int32)), (.ref b22), (.ref b22)])) (fun tgt kgo => ?_) ?_
          · show Steps p.tables e below (T22.setTop (mkF m 106 #[.val (.int p1), .val (.int p2), .val (.int c0), .val (.int c1), .val (.int c2), .val (.int c3)] [(.ref b22)])) tgt
            refine XS.dup X22.here hx rfl (hb hby dd_method_2_106) rfl rfl ?_
            show Steps p.tables e below (T22.setTop (mkF m 107 #[.val (.int p1), .val (.int p2), .val (.int c0), .val (.int c1), .val (.int c2), .val (.int c3)] [(.ref b22), (.ref b22)])) tgt
            refine XS.iconst X22.here hx rfl (hb hby dd_method_2_107) ?_
            exact kgo
          obtain ⟨T23, h23, k23, X23, e23, E23, A23, st23⟩ := newP X22 hx hZ (hw _ (List.mem_of_getElem? (i := 7) rfl)) e22 (g := (mkF m 108 #[.val (.int p1), .val (.int p2), .val (.int c0), .val (.int c1), .val (.int c2), .val (.int c3)] [(.int (3 : Int32)), (.ref b22), (.ref b22)])) rfl (hb hby dd_method_2_108) rfl (by decide) (cap := 3) (by decide) (by decide) (by decide) (by decide)
          obtain ⟨b23, g23⟩ : ∃ z, z = h22.size := ⟨_, rfl⟩
          rw [← g23] at A23 st23
          refine OwnGoes.step (T' := T23) (g' := (mkF m 110 #[.val (.int p1), .val (.int p2), .val (.int c0), .val (.int c1), .val (.int c2), .val (.int c3)] [(.ref b23), (.ref b22), (.ref b22)])) st23 ?_
          have V23 : Arv Z h23 b23 k23 .char (3 : Int32) [(.int (0 : Int32)), (.int (0 : Int32)), (.int (0 : Int32))] (.int (0 : Int32)) := (Arv.new A23 (by decide)).pad (pad_rep [] (.int (0 : Int32)) 3)
          have ne_b22_b23 : b22 ≠ b23 := Nat.ne_of_lt (Nat.lt_of_lt_of_le A22.lt (Nat.le_of_eq g23.symm))
          have g_b23 : n0 ≤ b23 := Nat.le_trans (Nat.le_trans Z0 K22.1) (Nat.le_of_eq g23.symm)
          have s_b23 : h0.size ≤ b23 := Nat.le_trans K22.1 (Nat.le_of_eq g23.symm)
          have Sf23 : Safe Z consts_1 s.vm h23 b23 := Safe.ext E23 R22.1 (Safe.new (Nat.le_of_eq g23.symm))
          have F23_48 := Safe.ext E23 R22.1 Sf22
          have F23_49 := A22.ext E23
          have F23_50 := F22_46.ext E23
          have F23_51 := F22_47.ext E23
          have Ol23 := Ol22.ext E23
          have K23 : Keep h0 h23 ([] : List Addr) := K22.ext E23
          have R23 := R22.trans (CHr.ext E23 R22.1)
          have hk23 := Nat.le_trans hk22 E23.1
          refine OwnGoes.step (T' := T23) (g' := (mkF m 113 #[.val (.int p1), .val (.int p2), .val (.int c0), .val (.int c1), .val (.int c2), .val (.int c3)] [(.int c0), (.int (0 : Int32)), (.ref b23), (.ref b23), (.ref b22), (.ref b22)])) (fun tgt kgo => ?_) ?_
          · show Steps p.tables e below (T23.setTop (mkF m 110 #[.val (.int p1), .val (.int p2), .val (.int c0), .val (.int c1), .val (.int c2), .val (.int c3)] [(.ref b23), (.ref b22), (.ref b22)])) tgt
            refine XS.dup X23.here hx rfl (hb hby dd_method_2_110) rfl rfl ?_
            show Steps p.tables e below (T23.setTop (mkF m 111 #[.val (.int p1), .val (.int p2), .val (.int c0), .val (.int c1), .val (.int c2), .val (.int c3)] [(.ref b23), (.ref b23), (.ref b22), (.ref b22)])) tgt
            refine XS.iconst X23.here hx rfl (hb hby dd_method_2_111) ?_
            show Steps p.tables e below (T23.setTop (mkF m 112 #[.val (.int p1), .val (.int p2), .val (.int c0), .val (.int c1), .val (.int c2), .val (.int c3)] [(.int (0 : Int32)), (.ref b23), (.ref b23), (.ref b22), (.ref b22)])) tgt
            refine XS.iloadN X23.here hx rfl (hb hby dd_method_2_112) rfl ?_
            exact kgo
          obtain ⟨cl24, Ar24, q24, S24, M24, H24, G24⟩ := id V23
          obtain ⟨T24, h24, X24, e24, W24, st24⟩ := stC X23 hx hZ e23 Ar24 (j := (0 : Int32)) (inb_of S24 ⟨by decide, by decide⟩) (g := (mkF m 113 #[.val (.int p1), .val (.int p2), .val (.int c0), .val (.int c1), .val (.int c2), .val (.int c3)] [(.int c0), (.int (0 : Int32)), (.ref b23), (.ref b23), (.ref b22), (.ref b22)])) rfl rfl (hb hby dd_method_2_113)
          refine OwnGoes.step (T' := T24) (g' := (mkF m 114 #[.val (.int p1), .val (.int p2), .val (.int c0), .val (.int c1), .val (.int c2), .val (.int c3)] [(.ref b23), (.ref b22), (.ref b22)])) st24 ?_
          have V24 : Arv Z h24 b23 k23 .char (3 : Int32) [(.int (nar .char c0)), (.int (0 : Int32)), (.int (0 : Int32))] (.int (0 : Int32)) := Arv.set Ar24 q24 S24 M24 H24 G24 (fits_nar_char _) W24 0 rfl (Nat.le_of_ble_eq_true rfl)
          rw [(own_nar_lat hl_c0)] at V24
          have V24' : Arv Z h24 b23 k23 .char (3 : Int32) [(.int c0), (.int (0 : Int32)), (.int (0 : Int32))] (.int (0 : Int32)) := V24
          have F24_52 := Safe.wr W24 Sf23 R23.1 F23_48
          have F24_53 := F23_49.wr W24
          have F24_54 := F23_50.other W24 (Or.inl ne_b22_b23)
          have F24_55 := F23_51.other W24 (Or.inl ne_b22_b23)
          have F24_56 := Safe.wr W24 Sf23 R23.1 Sf23
          have Ol24 := Ol23.wr W24 g_b23
          have K24 : Keep h0 h24 ([] : List Addr) := K23.wr W24 (Or.inr s_b23)
          have R24 := R23.trans (CHr.wr W24 Sf23 R23.1)
          have hk24 := Nat.le_trans hk23 (Keep.of_wr W24).1
          have N24 := Fr.snoc X24 N0 g_b23
          refine OwnGoes.step (T' := T24) (g' := (mkF m 117 #[.val (.int p1), .val (.int p2), .val (.int c0), .val (.int c1), .val (.int c2), .val (.int c3)] [(.int c1), (.int (1 : Int32)), (.ref b23), (.ref b23), (.ref b22), (.ref b22)])) (fun tgt kgo => ?_) ?_
          · show Steps p.tables e below (T24.setTop (mkF m 114 #[.val (.int p1), .val (.int p2), .val (.int c0), .val (.int c1), .val (.int c2), .val (.int c3)] [(.ref b23), (.ref b22), (.ref b22)])) tgt
            refine XS.dup X24.here hx rfl (hb hby dd_method_2_114) rfl rfl ?_
            show Steps p.tables e below (T24.setTop (mkF m 115 #[.val (.int p1), .val (.int p2), .val (.int c0), .val (.int c1), .val (.int c2), .val (.int c3)] [(.ref b23), (.ref b23), (.ref b22), (.ref b22)])) tgt
            refine XS.iconst X24.here hx rfl (hb hby dd_method_2_115) ?_
            show Steps p.tables e below (T24.setTop (mkF m 116 #[.val (.int p1), .val (.int p2), .val (.int c0), .val (.int c1), .val (.int c2), .val (.int c3)] [(.int (1 : Int32)), (.ref b23), (.ref b23), (.ref b22), (.ref b22)])) tgt
            refine XS.iloadN X24.here hx rfl (hb hby dd_method_2_116) rfl ?_
            exact kgo
          obtain ⟨cl25, Ar25, q25, S25, M25, H25, G25⟩ := id V24'
          obtain ⟨T25, h25, X25, e25, W25, st25⟩ := stC X24 hx hZ e24 Ar25 (j := (1 : Int32)) (inb_of S25 ⟨by decide, by decide⟩) (g := (mkF m 117 #[.val (.int p1), .val (.int p2), .val (.int c0), .val (.int c1), .val (.int c2), .val (.int c3)] [(.int c1), (.int (1 : Int32)), (.ref b23), (.ref b23), (.ref b22), (.ref b22)])) rfl rfl (hb hby dd_method_2_117)
          refine OwnGoes.step (T' := T25) (g' := (mkF m 118 #[.val (.int p1), .val (.int p2), .val (.int c0), .val (.int c1), .val (.int c2), .val (.int c3)] [(.ref b23), (.ref b22), (.ref b22)])) st25 ?_
          have V25 : Arv Z h25 b23 k23 .char (3 : Int32) [(.int c0), (.int (nar .char c1)), (.int (0 : Int32))] (.int (0 : Int32)) := Arv.set Ar25 q25 S25 M25 H25 G25 (fits_nar_char _) W25 1 rfl (Nat.le_of_ble_eq_true rfl)
          rw [(own_nar_lat hl_c1)] at V25
          have V25' : Arv Z h25 b23 k23 .char (3 : Int32) [(.int c0), (.int c1), (.int (0 : Int32))] (.int (0 : Int32)) := V25
          have F25_57 := Safe.wr W25 F24_56 R24.1 F24_52
          have F25_58 := F24_53.wr W25
          have F25_59 := F24_54.other W25 (Or.inl ne_b22_b23)
          have F25_60 := F24_55.other W25 (Or.inl ne_b22_b23)
          have F25_61 := Safe.wr W25 F24_56 R24.1 F24_56
          have Ol25 := Ol24.wr W25 g_b23
          have K25 : Keep h0 h25 ([] : List Addr) := K24.wr W25 (Or.inr s_b23)
          have R25 := R24.trans (CHr.wr W25 F24_56 R24.1)
          have hk25 := Nat.le_trans hk24 (Keep.of_wr W25).1
          have N25 := Fr.snoc X25 N24 g_b23
          refine OwnGoes.step (T' := T25) (g' := (mkF m 122 #[.val (.int p1), .val (.int p2), .val (.int c0), .val (.int c1), .val (.int c2), .val (.int c3)] [(.int c2), (.int (2 : Int32)), (.ref b23), (.ref b23), (.ref b22), (.ref b22)])) (fun tgt kgo => ?_) ?_
          · show Steps p.tables e below (T25.setTop (mkF m 118 #[.val (.int p1), .val (.int p2), .val (.int c0), .val (.int c1), .val (.int c2), .val (.int c3)] [(.ref b23), (.ref b22), (.ref b22)])) tgt
            refine XS.dup X25.here hx rfl (hb hby dd_method_2_118) rfl rfl ?_
            show Steps p.tables e below (T25.setTop (mkF m 119 #[.val (.int p1), .val (.int p2), .val (.int c0), .val (.int c1), .val (.int c2), .val (.int c3)] [(.ref b23), (.ref b23), (.ref b22), (.ref b22)])) tgt
            refine XS.iconst X25.here hx rfl (hb hby dd_method_2_119) ?_
            show Steps p.tables e below (T25.setTop (mkF m 120 #[.val (.int p1), .val (.int p2), .val (.int c0), .val (.int c1), .val (.int c2), .val (.int c3)] [(.int (2 : Int32)), (.ref b23), (.ref b23), (.ref b22), (.ref b22)])) tgt
            refine XS.iload X25.here hx rfl (hb hby dd_method_2_120) rfl ?_
            exact kgo
          obtain ⟨cl26, Ar26, q26, S26, M26, H26, G26⟩ := id V25'
          obtain ⟨T26, h26, X26, e26, W26, st26⟩ := stC X25 hx hZ e25 Ar26 (j := (2 : Int32)) (inb_of S26 ⟨by decide, by decide⟩) (g := (mkF m 122 #[.val (.int p1), .val (.int p2), .val (.int c0), .val (.int c1), .val (.int c2), .val (.int c3)] [(.int c2), (.int (2 : Int32)), (.ref b23), (.ref b23), (.ref b22), (.ref b22)])) rfl rfl (hb hby dd_method_2_122)
          refine OwnGoes.step (T' := T26) (g' := (mkF m 123 #[.val (.int p1), .val (.int p2), .val (.int c0), .val (.int c1), .val (.int c2), .val (.int c3)] [(.ref b23), (.ref b22), (.ref b22)])) st26 ?_
          have V26 : Arv Z h26 b23 k23 .char (3 : Int32) [(.int c0), (.int c1), (.int (nar .char c2))] (.int (0 : Int32)) := Arv.set Ar26 q26 S26 M26 H26 G26 (fits_nar_char _) W26 2 rfl (Nat.le_of_ble_eq_true rfl)
          rw [(own_nar_lat hl_c2)] at V26
          have V26' : Arv Z h26 b23 k23 .char (3 : Int32) [(.int c0), (.int c1), (.int c2)] (.int (0 : Int32)) := V26
          have F26_62 := Safe.wr W26 F25_61 R25.1 F25_57
          have F26_63 := F25_58.wr W26
          have F26_64 := F25_59.other W26 (Or.inl ne_b22_b23)
          have F26_65 := F25_60.other W26 (Or.inl ne_b22_b23)
          have F26_66 := Safe.wr W26 F25_61 R25.1 F25_61
          have Ol26 := Ol25.wr W26 g_b23
          have K26 : Keep h0 h26 ([] : List Addr) := K25.wr W26 (Or.inr s_b23)
          have R26 := R25.trans (CHr.wr W26 F25_61 R25.1)
          have hk26 := Nat.le_trans hk25 (Keep.of_wr W26).1
          have N26 := Fr.snoc X26 N25 g_b23
          have hp28 : ∀ c ∈ ([c0, c1, c2] : List Int32), ¬ c < 0 ∧ ¬ (255 : Int32) < c := (own_memS hl_c0 (own_memS hl_c1 (own_memS hl_c2 own_mem0)))
          have V28c : Arv Z h26 b23 k23 .char (3 : Int32) (([c0, c1, c2] : List Int32).map Value.int) (.int (0 : Int32)) := V26'
          obtain ⟨_, _, ⟨T27, L27, k27, n27⟩, -, X27, ⟨Lc27, hQ27, l27, y27, z27⟩, st27⟩ := X26.specialBack hx (y := (⟨"java/lang/String", "<init>", "([C)V"⟩ : MethodName)) rfl hown (mvT hZ (hw _ (List.mem_of_getElem? (i := 8) rfl))) (mvT hZ (hw _ (List.mem_of_getElem? (i := 9) rfl))) (mvT hZ (hw _ (List.mem_of_getElem? (i := 10) rfl))) (by decide) (StrChars.Road.backV (W := 1) hZ (fun d hd => hw d (own_hws d hd)) (kI := 4) (hw _ (List.mem_of_getElem? (i := 5) rfl)) (cs := ([c0, c1, c2] : List Int32)) (bs := ([c0, c1, c2] : List Int32).map (fun c => c.toInt8.toInt32)) (n := 3) g_b22 (Nat.le_trans Z0 K26.1) F26_63 F26_64 F26_65 V28c (wO2.ext Ol26.2) wP5 rfl rfl (by decide) (by decide) hp28 rfl (by decide) (by decide)) (g := (mkF m 123 #[.val (.int p1), .val (.int p2), .val (.int c0), .val (.int c1), .val (.int c2), .val (.int c3)] [(.ref b23), (.ref b22), (.ref b22)])) rfl (by rw [hml]; rfl) (Steps.refl _) (a := b22) (argsL := [(.ref b23)]) (rest := [(.ref b22)]) (lenOf pd_68446664 rfl) rfl (by show 2 * 0 + _ ≤ _; exact Nat.le_of_eq rfl) (hb hby dd_method_2_123) (fun _ _ => ⟨rfl, e26, (by decide : 2 + 1 ≤ _), (by decide : 7 + 3 ≤ _)⟩)
          dsimp only [Pt.U, Pt.locs, Pt.cells, Pt.slots] at X27 l27 y27 z27 st27 hQ27
          subst l27 y27 z27
          obtain ⟨rfl, Nq27, Kq27, fe27, fc27, t27, kb27, ut27, vt27, wt27, fv27, fa27⟩ := hQ27
          refine OwnGoes.tr (T' := T27) (g' := (mkF m 126 #[.val (.int p1), .val (.int p2), .val (.int c0), .val (.int c1), .val (.int c2), .val (.int c3)] [(.ref b22)])) st27 ?_
          have N27 := Fr.app N26 Nq27
          have ne_b22_t27 : b22 ≠ t27 := Nat.ne_of_lt (Nat.lt_of_lt_of_le F26_63.lt vt27)
          have ne_b23_t27 : b23 ≠ t27 := Nat.ne_of_lt (Nat.lt_of_lt_of_le V26'.lt vt27)
          have g_t27 : n0 ≤ t27 := Nat.le_trans (Nat.le_trans Z0 K26.1) vt27
          have s_t27 : h0.size ≤ t27 := Nat.le_trans K26.1 vt27
          have Sf27 : Safe Z consts_1 s.vm T27.heap t27 := Safe.keep Kq27 (sfS F26_62 sf0) R26.1 (Safe.new vt27)
          have F27_67 := Safe.keep Kq27 (sfS F26_62 sf0) R26.1 F26_62
          have F27_68 := F26_63.keep Kq27
          have F27_69 := Safe.keep Kq27 (sfS F26_62 sf0) R26.1 F26_66
          have F27_70 := V26'.keep Kq27 (ninS (Ne.symm ne_b22_b23) nin0)
          have Ol27 := Ol26.keep Kq27 (allS g_b22 all0)
          have K27 : Keep h0 T27.heap ([] : List Addr) := K26.trans Kq27 (allS (Or.inr s_b22) all0)
          have R27 := R26.trans (CHr.keep Kq27 (sfS F26_62 sf0) R26.1)
          have hk27 := Nat.le_trans hk26 Kq27.1
          have ho : OwnStr ([c0, c1, c2] : List Int32) (0 : Int32) (3 : Int32) ((([c0, c1, c2] : List Int32).map (fun c => c.toInt8.toInt32)).map Value.int) := own_str_lat (n := 3) rfl (by decide) hp28
          have hret : ∀ fs, (∀ (f : JFrame) (acts : List Action), f.method = m → f.locked = none → f.entered = [] → (doReturn e (T27.setTop f) acts (some (.ref b22))).1 = T27.setFrames fs) → Steps p.tables e below (T27.setTop (mkF m 126 #[.val (.int p1), .val (.int p2), .val (.int c0), .val (.int c1), .val (.int c2), .val (.int c3)] [(.ref b22)])) (T27.setFrames fs) := by
            intro fs hr
            jvm_step X27.here [X27.here.top, hx, (hb hby dd_method_2_126), X27.method', Bd.returns, Value.isRef, FieldType.isReference]
            first | (intro acts; rw [hr _ acts rfl rfl rfl]) | rw [hr _ _ rfl rfl rfl]
            exact Steps.refl _
          refine own_leaveW (Z := Z) (EL := consts_1) X27 hS0 hk27 hlk (v := some (.ref b22)) (fun h => by rw [Bd.returns] at h; cases h) hret (by decide) (by decide) ?_ ?_
          · rw [hh]
            exact R27.trans (CHv.at X27 hZ hEL R27.1)
          show Q_str Z p1 p2 h0 n0 _ T27.heap _
          exact ⟨b22, t27, kb27, (3 : Int32), ((([c0, c1, c2] : List Int32).map (fun c => c.toInt8.toInt32)).map Value.int), ([c0, c1, c2] : List Int32), rfl, N27, K27, s_b22, fe27, fv27, fc27, fa27, ho, (Nat.le_of_ble_eq_true rfl)⟩
        · skip
          refine OwnGoes.step (T' := s₁) (g' := (mkF m 127 #[.val (.int p1), .val (.int p2), .val (.int c0), .val (.int c1), .val (.int c2), .val (.int c3)] [])) (fun tgt kgo => ?_) ?_
          · show Steps p.tables e below (s₁.setTop (mkF m 100 #[.val (.int p1), .val (.int p2), .val (.int c0), .val (.int c1), .val (.int c2), .val (.int c3)] [(.int (3 : Int32)), (.int p2)])) tgt
            refine XS.icmpYes X0.here hx rfl (pc0 := 100) (pc' := 127) rfl (hb hby dd_method_2_100) rfl (feq cc21).2 (by decide) (by decide) ?_
            exact kgo
          obtain ⟨T30, h30, X30, e30, E30, A30, D30, U30, st30⟩ := newO X0 hx hZ hown (hw _ (List.mem_of_getElem? (i := 4) rfl)) (hw _ (List.mem_of_getElem? (i := 5) rfl)) (hw _ (List.mem_of_getElem? (i := 6) rfl)) e0 (g := (mkF m 127 #[.val (.int p1), .val (.int p2), .val (.int c0), .val (.int c1), .val (.int c2), .val (.int c3)] [])) rfl (hb hby dd_method_2_127) (by decide) (by decide)
          obtain ⟨b30, g30⟩ : ∃ z, z = h0.size := ⟨_, rfl⟩
          rw [← g30] at A30 D30 U30 st30
          refine OwnGoes.step (T' := T30) (g' := (mkF m 130 #[.val (.int p1), .val (.int p2), .val (.int c0), .val (.int c1), .val (.int c2), .val (.int c3)] [(.ref b30)])) st30 ?_
          have g_b30 : n0 ≤ b30 := Nat.le_trans (Nat.le_trans Z0 K0.1) (Nat.le_of_eq g30.symm)
          have s_b30 : h0.size ≤ b30 := Nat.le_trans K0.1 (Nat.le_of_eq g30.symm)
          have Sf30 : Safe Z consts_1 s.vm h30 b30 := Safe.ext E30 R0.1 (Safe.new (Nat.le_of_eq g30.symm))
          have Ol30 := X00.ext E30
          have K30 : Keep h0 h30 ([] : List Addr) := K0.ext E30
          have R30 := R0.trans (CHr.ext E30 R0.1)
          have hk30 := Nat.le_trans hk0 E30.1
          have F30_71 : Fld Z h30 b30 "java/lang/String" "value" "[B" .null := D30 (Or.inr (hw _ (List.mem_of_getElem? (i := 20) rfl))) (ty := (.array .byte)) (by decide)
          have F30_72 : Fld Z h30 b30 "java/lang/String" "coder" "B" (.int (0 : Int32)) := D30 (Or.inr (hw _ (List.mem_of_getElem? (i := 21) rfl))) (ty := .byte) (by decide)
          refine OwnGoes.step (T' := T30) (g' := (mkF m 132 #[.val (.int p1), .val (.int p2), .val (.int c0), .val (.int c1), .val (.int c2), .val (.int c3)] [(.int (4 : Int32)), (.ref b30), (.ref b30)])) (fun tgt kgo => ?_) ?_
          · show Steps p.tables e below (T30.setTop (mkF m 130 #[.val (.int p1), .val (.int p2), .val (.int c0), .val (.int c1), .val (.int c2), .val (.int c3)] [(.ref b30)])) tgt
            refine XS.dup X30.here hx rfl (hb hby dd_method_2_130) rfl rfl ?_
            show Steps p.tables e below (T30.setTop (mkF m 131 #[.val (.int p1), .val (.int p2), .val (.int c0), .val (.int c1), .val (.int c2), .val (.int c3)] [(.ref b30), (.ref b30)])) tgt
            refine XS.iconst X30.here hx rfl (hb hby dd_method_2_131) ?_
            exact kgo
          obtain ⟨T31, h31, k31, X31, e31, E31, A31, st31⟩ := newP X30 hx hZ (hw _ (List.mem_of_getElem? (i := 7) rfl)) e30 (g := (mkF m 132 #[.val (.int p1), .val (.int p2), .val (.int c0), .val (.int c1), .val (.int c2), .val (.int c3)] [(.int (4 : Int32)), (.ref b30), (.ref b30)])) rfl (hb hby dd_method_2_132) rfl (by decide) (cap := 4) (by decide) (by decide) (by decide) (by decide)
          obtain ⟨b31, g31⟩ : ∃ z, z = h30.size := ⟨_, rfl⟩
          rw [← g31] at A31 st31
          refine OwnGoes.step (T' := T31) (g' := (mkF m 134 #[.val (.int p1), .val (.int p2), .val (.int c0), .val (.int c1), .val (.int c2), .val (.int c3)] [(.ref b31), (.ref b30), (.ref b30)])) st31 ?_
          have V31 : Arv Z h31 b31 k31 .char (4 : Int32) [(.int (0 : Int32)), (.int (0 : Int32)), (.int (0 : Int32)), (.int (0 : Int32))] (.int (0 : Int32)) := (Arv.new A31 (by decide)).pad (pad_rep [] (.int (0 : Int32)) 4)
          have ne_b30_b31 : b30 ≠ b31 := Nat.ne_of_lt (Nat.lt_of_lt_of_le A30.lt (Nat.le_of_eq g31.symm))
          have g_b31 : n0 ≤ b31 := Nat.le_trans (Nat.le_trans Z0 K30.1) (Nat.le_of_eq g31.symm)
          have s_b31 : h0.size ≤ b31 := Nat.le_trans K30.1 (Nat.le_of_eq g31.symm)
          have Sf31 : Safe Z consts_1 s.vm h31 b31 := Safe.ext E31 R30.1 (Safe.new (Nat.le_of_eq g31.symm))
          have F31_73 := Safe.ext E31 R30.1 Sf30
          have F31_74 := A30.ext E31
          have F31_75 := F30_71.ext E31
          have F31_76 := F30_72.ext E31
          have Ol31 := Ol30.ext E31
          have K31 : Keep h0 h31 ([] : List Addr) := K30.ext E31
          have R31 := R30.trans (CHr.ext E31 R30.1)
          have hk31 := Nat.le_trans hk30 E31.1
          refine OwnGoes.step (T' := T31) (g' := (mkF m 137 #[.val (.int p1), .val (.int p2), .val (.int c0), .val (.int c1), .val (.int c2), .val (.int c3)] [(.int c0), (.int (0 : Int32)), (.ref b31), (.ref b31), (.ref b30), (.ref b30)])) (fun tgt kgo => ?_) ?_
          · show Steps p.tables e below (T31.setTop (mkF m 134 #[.val (.int p1), .val (.int p2), .val (.int c0), .val (.int c1), .val (.int c2), .val (.int c3)] [(.ref b31), (.ref b30), (.ref b30)])) tgt
            refine XS.dup X31.here hx rfl (hb hby dd_method_2_134) rfl rfl ?_
            show Steps p.tables e below (T31.setTop (mkF m 135 #[.val (.int p1), .val (.int p2), .val (.int c0), .val (.int c1), .val (.int c2), .val (.int c3)] [(.ref b31), (.ref b31), (.ref b30), (.ref b30)])) tgt
            refine XS.iconst X31.here hx rfl (hb hby dd_method_2_135) ?_
            show Steps p.tables e below (T31.setTop (mkF m 136 #[.val (.int p1), .val (.int p2), .val (.int c0), .val (.int c1), .val (.int c2), .val (.int c3)] [(.int (0 : Int32)), (.ref b31), (.ref b31), (.ref b30), (.ref b30)])) tgt
            refine XS.iloadN X31.here hx rfl (hb hby dd_method_2_136) rfl ?_
            exact kgo
          obtain ⟨cl32, Ar32, q32, S32, M32, H32, G32⟩ := id V31
          obtain ⟨T32, h32, X32, e32, W32, st32⟩ := stC X31 hx hZ e31 Ar32 (j := (0 : Int32)) (inb_of S32 ⟨by decide, by decide⟩) (g := (mkF m 137 #[.val (.int p1), .val (.int p2), .val (.int c0), .val (.int c1), .val (.int c2), .val (.int c3)] [(.int c0), (.int (0 : Int32)), (.ref b31), (.ref b31), (.ref b30), (.ref b30)])) rfl rfl (hb hby dd_method_2_137)
          refine OwnGoes.step (T' := T32) (g' := (mkF m 138 #[.val (.int p1), .val (.int p2), .val (.int c0), .val (.int c1), .val (.int c2), .val (.int c3)] [(.ref b31), (.ref b30), (.ref b30)])) st32 ?_
          have V32 : Arv Z h32 b31 k31 .char (4 : Int32) [(.int (nar .char c0)), (.int (0 : Int32)), (.int (0 : Int32)), (.int (0 : Int32))] (.int (0 : Int32)) := Arv.set Ar32 q32 S32 M32 H32 G32 (fits_nar_char _) W32 0 rfl (Nat.le_of_ble_eq_true rfl)
          rw [(own_nar_lat hl_c0)] at V32
          have V32' : Arv Z h32 b31 k31 .char (4 : Int32) [(.int c0), (.int (0 : Int32)), (.int (0 : Int32)), (.int (0 : Int32))] (.int (0 : Int32)) := V32
          have F32_77 := Safe.wr W32 Sf31 R31.1 F31_73
          have F32_78 := F31_74.wr W32
          have F32_79 := F31_75.other W32 (Or.inl ne_b30_b31)
          have F32_80 := F31_76.other W32 (Or.inl ne_b30_b31)
          have F32_81 := Safe.wr W32 Sf31 R31.1 Sf31
          have Ol32 := Ol31.wr W32 g_b31
          have K32 : Keep h0 h32 ([] : List Addr) := K31.wr W32 (Or.inr s_b31)
          have R32 := R31.trans (CHr.wr W32 Sf31 R31.1)
          have hk32 := Nat.le_trans hk31 (Keep.of_wr W32).1
          have N32 := Fr.snoc X32 N0 g_b31
          refine OwnGoes.step (T' := T32) (g' := (mkF m 141 #[.val (.int p1), .val (.int p2), .val (.int c0), .val (.int c1), .val (.int c2), .val (.int c3)] [(.int c1), (.int (1 : Int32)), (.ref b31), (.ref b31), (.ref b30), (.ref b30)])) (fun tgt kgo => ?_) ?_
          · show Steps p.tables e below (T32.setTop (mkF m 138 #[.val (.int p1), .val (.int p2), .val (.int c0), .val (.int c1), .val (.int c2), .val (.int c3)] [(.ref b31), (.ref b30), (.ref b30)])) tgt
            refine XS.dup X32.here hx rfl (hb hby dd_method_2_138) rfl rfl ?_
            show Steps p.tables e below (T32.setTop (mkF m 139 #[.val (.int p1), .val (.int p2), .val (.int c0), .val (.int c1), .val (.int c2), .val (.int c3)] [(.ref b31), (.ref b31), (.ref b30), (.ref b30)])) tgt
            refine XS.iconst X32.here hx rfl (hb hby dd_method_2_139) ?_
            show Steps p.tables e below (T32.setTop (mkF m 140 #[.val (.int p1), .val (.int p2), .val (.int c0), .val (.int c1), .val (.int c2), .val (.int c3)] [(.int (1 : Int32)), (.ref b31), (.ref b31), (.ref b30), (.ref b30)])) tgt
            refine XS.iloadN X32.here hx rfl (hb hby dd_method_2_140) rfl ?_
            exact kgo
          obtain ⟨cl33, Ar33, q33, S33, M33, H33, G33⟩ := id V32'
          obtain ⟨T33, h33, X33, e33, W33, st33⟩ := stC X32 hx hZ e32 Ar33 (j := (1 : Int32)) (inb_of S33 ⟨by decide, by decide⟩) (g := (mkF m 141 #[.val (.int p1), .val (.int p2), .val (.int c0), .val (.int c1), .val (.int c2), .val (.int c3)] [(.int c1), (.int (1 : Int32)), (.ref b31), (.ref b31), (.ref b30), (.ref b30)])) rfl rfl (hb hby dd_method_2_141)
          refine OwnGoes.step (T' := T33) (g' := (mkF m 142 #[.val (.int p1), .val (.int p2), .val (.int c0), .val (.int c1), .val (.int c2), .val (.int c3)] [(.ref b31), (.ref b30), (.ref b30)])) st33 ?_
          have V33 : Arv Z h33 b31 k31 .char (4 : Int32) [(.int c0), (.int (nar .char c1)), (.int (0 : Int32)), (.int (0 : Int32))] (.int (0 : Int32)) := Arv.set Ar33 q33 S33 M33 H33 G33 (fits_nar_char _) W33 1 rfl (Nat.le_of_ble_eq_true rfl)
          rw [(own_nar_lat hl_c1)] at V33
          have V33' : Arv Z h33 b31 k31 .char (4 : Int32) [(.int c0), (.int c1), (.int (0 : Int32)), (.int (0 : Int32))] (.int (0 : Int32)) := V33
          have F33_82 := Safe.wr W33 F32_81 R32.1 F32_77
          have F33_83 := F32_78.wr W33
          have F33_84 := F32_79.other W33 (Or.inl ne_b30_b31)
          have F33_85 := F32_80.other W33 (Or.inl ne_b30_b31)
          have F33_86 := Safe.wr W33 F32_81 R32.1 F32_81
          have Ol33 := Ol32.wr W33 g_b31
          have K33 : Keep h0 h33 ([] : List Addr) := K32.wr W33 (Or.inr s_b31)
          have R33 := R32.trans (CHr.wr W33 F32_81 R32.1)
          have hk33 := Nat.le_trans hk32 (Keep.of_wr W33).1
          have N33 := Fr.snoc X33 N32 g_b31
          refine OwnGoes.step (T' := T33) (g' := (mkF m 146 #[.val (.int p1), .val (.int p2), .val (.int c0), .val (.int c1), .val (.int c2), .val (.int c3)] [(.int c2), (.int (2 : Int32)), (.ref b31), (.ref b31), (.ref b30), (.ref b30)])) (fun tgt kgo => ?_) ?_
          · show Steps p.tables e below (T33.setTop (mkF m 142 #[.val (.int p1), .val (.int p2), .val (.int c0), .val (.int c1), .val (.int c2), .val (.int c3)] [(.ref b31), (.ref b30), (.ref b30)])) tgt
            refine XS.dup X33.here hx rfl (hb hby dd_method_2_142) rfl rfl ?_
            show Steps p.tables e below (T33.setTop (mkF m 143 #[.val (.int p1), .val (.int p2), .val (.int c0), .val (.int c1), .val (.int c2), .val (.int c3)] [(.ref b31), (.ref b31), (.ref b30), (.ref b30)])) tgt
            refine XS.iconst X33.here hx rfl (hb hby dd_method_2_143) ?_
            show Steps p.tables e below (T33.setTop (mkF m 144 #[.val (.int p1), .val (.int p2), .val (.int c0), .val (.int c1), .val (.int c2), .val (.int c3)] [(.int (2 : Int32)), (.ref b31), (.ref b31), (.ref b30), (.ref b30)])) tgt
            refine XS.iload X33.here hx rfl (hb hby dd_method_2_144) rfl ?_
            exact kgo
          obtain ⟨cl34, Ar34, q34, S34, M34, H34, G34⟩ := id V33'
          obtain ⟨T34, h34, X34, e34, W34, st34⟩ := stC X33 hx hZ e33 Ar34 (j := (2 : Int32)) (inb_of S34 ⟨by decide, by decide⟩) (g := (mkF m 146 #[.val (.int p1), .val (.int p2), .val (.int c0), .val (.int c1), .val (.int c2), .val (.int c3)] [(.int c2), (.int (2 : Int32)), (.ref b31), (.ref b31), (.ref b30), (.ref b30)])) rfl rfl (hb hby dd_method_2_146)
          refine OwnGoes.step (T' := T34) (g' := (mkF m 147 #[.val (.int p1), .val (.int p2), .val (.int c0), .val (.int c1), .val (.int c2), .val (.int c3)] [(.ref b31), (.ref b30), (.ref b30)])) st34 ?_
          have V34 : Arv Z h34 b31 k31 .char (4 : Int32) [(.int c0), (.int c1), (.int (nar .char c2)), (.int (0 : Int32))] (.int (0 : Int32)) := Arv.set Ar34 q34 S34 M34 H34 G34 (fits_nar_char _) W34 2 rfl (Nat.le_of_ble_eq_true rfl)
          rw [(own_nar_lat hl_c2)] at V34
          have V34' : Arv Z h34 b31 k31 .char (4 : Int32) [(.int c0), (.int c1), (.int c2), (.int (0 : Int32))] (.int (0 : Int32)) := V34
          have F34_87 := Safe.wr W34 F33_86 R33.1 F33_82
          have F34_88 := F33_83.wr W34
          have F34_89 := F33_84.other W34 (Or.inl ne_b30_b31)
          have F34_90 := F33_85.other W34 (Or.inl ne_b30_b31)
          have F34_91 := Safe.wr W34 F33_86 R33.1 F33_86
          have Ol34 := Ol33.wr W34 g_b31
          have K34 : Keep h0 h34 ([] : List Addr) := K33.wr W34 (Or.inr s_b31)
          have R34 := R33.trans (CHr.wr W34 F33_86 R33.1)
          have hk34 := Nat.le_trans hk33 (Keep.of_wr W34).1
          have N34 := Fr.snoc X34 N33 g_b31
          refine OwnGoes.step (T' := T34) (g' := (mkF m 151 #[.val (.int p1), .val (.int p2), .val (.int c0), .val (.int c1), .val (.int c2), .val (.int c3)] [(.int c3), (.int (3 : Int32)), (.ref b31), (.ref b31), (.ref b30), (.ref b30)])) (fun tgt kgo => ?_) ?_
          · show Steps p.tables e below (T34.setTop (mkF m 147 #[.val (.int p1), .val (.int p2), .val (.int c0), .val (.int c1), .val (.int c2), .val (.int c3)] [(.ref b31), (.ref b30), (.ref b30)])) tgt
            refine XS.dup X34.here hx rfl (hb hby dd_method_2_147) rfl rfl ?_
            show Steps p.tables e below (T34.setTop (mkF m 148 #[.val (.int p1), .val (.int p2), .val (.int c0), .val (.int c1), .val (.int c2), .val (.int c3)] [(.ref b31), (.ref b31), (.ref b30), (.ref b30)])) tgt
            refine XS.iconst X34.here hx rfl (hb hby dd_method_2_148) ?_
            show Steps p.tables e below (T34.setTop (mkF m 149 #[.val (.int p1), .val (.int p2), .val (.int c0), .val (.int c1), .val (.int c2), .val (.int c3)] [(.int (3 : Int32)), (.ref b31), (.ref b31), (.ref b30), (.ref b30)])) tgt
            refine XS.iload X34.here hx rfl (hb hby dd_method_2_149) rfl ?_
            exact kgo
          obtain ⟨cl35, Ar35, q35, S35, M35, H35, G35⟩ := id V34'
          obtain ⟨T35, h35, X35, e35, W35, st35⟩ := stC X34 hx hZ e34 Ar35 (j := (3 : Int32)) (inb_of S35 ⟨by decide, by decide⟩) (g := (mkF m 151 #[.val (.int p1), .val (.int p2), .val (.int c0), .val (.int c1), .val (.int c2), .val (.int c3)] [(.int c3), (.int (3 : Int32)), (.ref b31), (.ref b31), (.ref b30), (.ref b30)])) rfl rfl (hb hby dd_method_2_151)
          refine OwnGoes.step (T' := T35) (g' := (mkF m 152 #[.val (.int p1), .val (.int p2), .val (.int c0), .val (.int c1), .val (.int c2), .val (.int c3)] [(.ref b31), (.ref b30), (.ref b30)])) st35 ?_
          have V35 : Arv Z h35 b31 k31 .char (4 : Int32) [(.int c0), (.int c1), (.int c2), (.int (nar .char c3))] (.int (0 : Int32)) := Arv.set Ar35 q35 S35 M35 H35 G35 (fits_nar_char _) W35 3 rfl (Nat.le_of_ble_eq_true rfl)
          rw [(own_nar_lat hl_c3)] at V35
          have V35' : Arv Z h35 b31 k31 .char (4 : Int32) [(.int c0), (.int c1), (.int c2), (.int c3)] (.int (0 : Int32)) := V35
          have F35_92 := Safe.wr W35 F34_91 R34.1 F34_87
          have F35_93 := F34_88.wr W35
          have F35_94 := F34_89.other W35 (Or.inl ne_b30_b31)
          have F35_95 := F34_90.other W35 (Or.inl ne_b30_b31)
          have F35_96 := Safe.wr W35 F34_91 R34.1 F34_91
          have Ol35 := Ol34.wr W35 g_b31
          have K35 : Keep h0 h35 ([] : List Addr) := K34.wr W35 (Or.inr s_b31)
          have R35 := R34.trans (CHr.wr W35 F34_91 R34.1)
          have hk35 := Nat.le_trans hk34 (Keep.of_wr W35).1
          have N35 := Fr.snoc X35 N34 g_b31
          have hp37 : ∀ c ∈ ([c0, c1, c2, c3] : List Int32), ¬ c < 0 ∧ ¬ (255 : Int32) < c := (own_memS hl_c0 (own_memS hl_c1 (own_memS hl_c2 (own_memS hl_c3 own_mem0))))
          have V37c : Arv Z h35 b31 k31 .char (4 : Int32) (([c0, c1, c2, c3] : List Int32).map Value.int) (.int (0 : Int32)) := V35'
          obtain ⟨_, _, ⟨T36, L36, k36, n36⟩, -, X36, ⟨Lc36, hQ36, l36, y36, z36⟩, st36⟩ := X35.specialBack hx (y := (⟨"java/lang/String", "<init>", "([C)V"⟩ : MethodName)) rfl hown (mvT hZ (hw _ (List.mem_of_getElem? (i := 8) rfl))) (mvT hZ (hw _ (List.mem_of_getElem? (i := 9) rfl))) (mvT hZ (hw _ (List.mem_of_getElem? (i := 10) rfl))) (by decide) (StrChars.Road.backV (W := 1) hZ (fun d hd => hw d (own_hws d hd)) (kI := 4) (hw _ (List.mem_of_getElem? (i := 5) rfl)) (cs := ([c0, c1, c2, c3] : List Int32)) (bs := ([c0, c1, c2, c3] : List Int32).map (fun c => c.toInt8.toInt32)) (n := 4) g_b30 (Nat.le_trans Z0 K35.1) F35_93 F35_94 F35_95 V37c (wO2.ext Ol35.2) wP5 rfl rfl (by decide) (by decide) hp37 rfl (by decide) (by decide)) (g := (mkF m 152 #[.val (.int p1), .val (.int p2), .val (.int c0), .val (.int c1), .val (.int c2), .val (.int c3)] [(.ref b31), (.ref b30), (.ref b30)])) rfl (by rw [hml]; rfl) (Steps.refl _) (a := b30) (argsL := [(.ref b31)]) (rest := [(.ref b30)]) (lenOf pd_68446664 rfl) rfl (by show 2 * 0 + _ ≤ _; exact Nat.le_of_eq rfl) (hb hby dd_method_2_152) (fun _ _ => ⟨rfl, e35, (by decide : 2 + 1 ≤ _), (by decide : 8 + 4 ≤ _)⟩)
          dsimp only [Pt.U, Pt.locs, Pt.cells, Pt.slots] at X36 l36 y36 z36 st36 hQ36
          subst l36 y36 z36
          obtain ⟨rfl, Nq36, Kq36, fe36, fc36, t36, kb36, ut36, vt36, wt36, fv36, fa36⟩ := hQ36
          refine OwnGoes.tr (T' := T36) (g' := (mkF m 155 #[.val (.int p1), .val (.int p2), .val (.int c0), .val (.int c1), .val (.int c2), .val (.int c3)] [(.ref b30)])) st36 ?_
          have N36 := Fr.app N35 Nq36
          have ne_b30_t36 : b30 ≠ t36 := Nat.ne_of_lt (Nat.lt_of_lt_of_le F35_93.lt vt36)
          have ne_b31_t36 : b31 ≠ t36 := Nat.ne_of_lt (Nat.lt_of_lt_of_le V35'.lt vt36)
          have g_t36 : n0 ≤ t36 := Nat.le_trans (Nat.le_trans Z0 K35.1) vt36
          have s_t36 : h0.size ≤ t36 := Nat.le_trans K35.1 vt36
          have Sf36 : Safe Z consts_1 s.vm T36.heap t36 := Safe.keep Kq36 (sfS F35_92 sf0) R35.1 (Safe.new vt36)
          have F36_97 := Safe.keep Kq36 (sfS F35_92 sf0) R35.1 F35_92
          have F36_98 := F35_93.keep Kq36
          have F36_99 := Safe.keep Kq36 (sfS F35_92 sf0) R35.1 F35_96
          have F36_100 := V35'.keep Kq36 (ninS (Ne.symm ne_b30_b31) nin0)
          have Ol36 := Ol35.keep Kq36 (allS g_b30 all0)
          have K36 : Keep h0 T36.heap ([] : List Addr) := K35.trans Kq36 (allS (Or.inr s_b30) all0)
          have R36 := R35.trans (CHr.keep Kq36 (sfS F35_92 sf0) R35.1)
          have hk36 := Nat.le_trans hk35 Kq36.1
          have ho : OwnStr ([c0, c1, c2, c3] : List Int32) (0 : Int32) (4 : Int32) ((([c0, c1, c2, c3] : List Int32).map (fun c => c.toInt8.toInt32)).map Value.int) := own_str_lat (n := 4) rfl (by decide) hp37
          have hret : ∀ fs, (∀ (f : JFrame) (acts : List Action), f.method = m → f.locked = none → f.entered = [] → (doReturn e (T36.setTop f) acts (some (.ref b30))).1 = T36.setFrames fs) → Steps p.tables e below (T36.setTop (mkF m 155 #[.val (.int p1), .val (.int p2), .val (.int c0), .val (.int c1), .val (.int c2), .val (.int c3)] [(.ref b30)])) (T36.setFrames fs) := by
            intro fs hr
            jvm_step X36.here [X36.here.top, hx, (hb hby dd_method_2_155), X36.method', Bd.returns, Value.isRef, FieldType.isReference]
            first | (intro acts; rw [hr _ acts rfl rfl rfl]) | rw [hr _ _ rfl rfl rfl]
            exact Steps.refl _
          refine own_leaveW (Z := Z) (EL := consts_1) X36 hS0 hk36 hlk (v := some (.ref b30)) (fun h => by rw [Bd.returns] at h; cases h) hret (by decide) (by decide) ?_ ?_
          · rw [hh]
            exact R36.trans (CHv.at X36 hZ hEL R36.1)
          show Q_str Z p1 p2 h0 n0 _ T36.heap _
          exact ⟨b30, t36, kb36, (4 : Int32), ((([c0, c1, c2, c3] : List Int32).map (fun c => c.toInt8.toInt32)).map Value.int), ([c0, c1, c2, c3] : List Int32), rfl, N36, K36, s_b30, fe36, fv36, fc36, fa36, ho, (Nat.le_of_ble_eq_true rfl)⟩
theorem own_short {cs : List Int32} (h : cs.length ≤ 4) : ¬ cs = ([66, 97, 99, 107, 98, 111, 110, 101, 69, 108, 101, 109, 101, 110, 116] : List Int32) ∧ ¬ cs = ([69, 108, 101, 109, 101, 110, 116] : List Int32) := ⟨fun e => by rw [e] at h; exact absurd h (by decide), fun e => by rw [e] at h; exact absurd h (by decide)⟩
theorem own_ge2 {x : Int32} (h : ¬ x < 0) (h0 : ¬ x = 0) (h1 : ¬ x = 1) : ¬ x < 2 := by
  rw [Int32.lt_iff_toInt_lt] at *
  have e0 : (0 : Int32).toInt = 0 := rfl
  have e2 : (2 : Int32).toInt = 2 := rfl
  have a0 : ¬ x.toInt = 0 := fun e => h0 (Int32.toInt_inj.mp e)
  have a1 : ¬ x.toInt = 1 := fun e => h1 (Int32.toInt_inj.mp e)
  omega
theorem ef_typeOf (m : MethodId) (x0 : Int32) (x1 : Addr) : entryFrame m #[(.int x0), (.ref x1)] 2 = mkF m 0 #[.val (.int x0), .val (.ref x1)] [] := by first | (simp [entryFrame, mkF, argsToLocals, Value.category]; done) | rfl
def Q_typeOf (Z : State) (p1 : Int32) (a1 : Addr) (t1 : Addr) (k1 : ClassId) (N1 : Int32) (vs1 : List Value) (cs1 : List Int32) (h0 : Heap) (n0 : Nat) (v : Option Value) (h : Heap) (L : List Loc) : Prop := ∃ (x : Addr), ∃ (t : Addr), ∃ (k : ClassId), ∃ (N : Int32), ∃ (vs : List Value), ∃ (cs : List Int32), v = some (.ref x) ∧ Fr n0 L ∧ Keep h0 h ([] : List Addr) ∧ Exa Z h x "java/lang/String" ∧ Fld Z h x "java/lang/String" "value" "[B" (.ref t) ∧ Fld Z h x "java/lang/String" "coder" "B" (.int (0 : Int32)) ∧ Arv Z h t k .byte N vs (.int (0 : Int32)) ∧ (OwnStr cs (0 : Int32) N vs) ∧ ((p1 < 2 ∧ (cs = ([66, 97, 99, 107, 98, 111, 110, 101, 69, 108, 101, 109, 101, 110, 116] : List Int32) ∨ cs = ([69, 108, 101, 109, 101, 110, 116] : List Int32))) ∨ (¬ p1 < 2 ∧ ¬ cs = ([66, 97, 99, 107, 98, 111, 110, 101, 69, 108, 101, 109, 101, 110, 116] : List Int32) ∧ ¬ cs = ([69, 108, 101, 109, 101, 110, 116] : List Int32)))
theorem dd_method_3_0 : decode method_3_code 0 = .ok (.iload_n 0, 1) := by decide +kernel
theorem dd_method_3_1 : decode method_3_code 1 = .ok (.ifCond .ne 6, 3) := by decide +kernel
theorem dd_method_3_4 : decode method_3_code 4 = .ok (.ldc 12, 2) := by decide +kernel
theorem dd_method_3_6 : decode method_3_code 6 = .ok (.areturn, 1) := by decide +kernel
theorem dd_method_3_7 : decode method_3_code 7 = .ok (.iload_n 0, 1) := by decide +kernel
theorem dd_method_3_8 : decode method_3_code 8 = .ok (.iconst 1, 1) := by decide +kernel
theorem dd_method_3_9 : decode method_3_code 9 = .ok (.if_icmp .ne 6, 3) := by decide +kernel
theorem dd_method_3_12 : decode method_3_code 12 = .ok (.ldc 14, 2) := by decide +kernel
theorem dd_method_3_14 : decode method_3_code 14 = .ok (.areturn, 1) := by decide +kernel
theorem dd_method_3_15 : decode method_3_code 15 = .ok (.iload_n 0, 1) := by decide +kernel
theorem dd_method_3_16 : decode method_3_code 16 = .ok (.iconst 2, 1) := by decide +kernel
theorem dd_method_3_17 : decode method_3_code 17 = .ok (.if_icmp .ne 6, 3) := by decide +kernel
theorem dd_method_3_20 : decode method_3_code 20 = .ok (.ldc 16, 2) := by decide +kernel
theorem dd_method_3_22 : decode method_3_code 22 = .ok (.areturn, 1) := by decide +kernel
theorem dd_method_3_23 : decode method_3_code 23 = .ok (.iload_n 0, 1) := by decide +kernel
theorem dd_method_3_24 : decode method_3_code 24 = .ok (.iconst 3, 1) := by decide +kernel
theorem dd_method_3_25 : decode method_3_code 25 = .ok (.if_icmp .ne 6, 3) := by decide +kernel
theorem dd_method_3_28 : decode method_3_code 28 = .ok (.ldc 18, 2) := by decide +kernel
theorem dd_method_3_30 : decode method_3_code 30 = .ok (.areturn, 1) := by decide +kernel
theorem dd_method_3_31 : decode method_3_code 31 = .ok (.iload_n 0, 1) := by decide +kernel
theorem dd_method_3_32 : decode method_3_code 32 = .ok (.iconst 4, 1) := by decide +kernel
theorem dd_method_3_33 : decode method_3_code 33 = .ok (.if_icmp .ne 6, 3) := by decide +kernel
theorem dd_method_3_36 : decode method_3_code 36 = .ok (.ldc 20, 2) := by decide +kernel
theorem dd_method_3_38 : decode method_3_code 38 = .ok (.areturn, 1) := by decide +kernel
theorem dd_method_3_39 : decode method_3_code 39 = .ok (.iload_n 0, 1) := by decide +kernel
theorem dd_method_3_40 : decode method_3_code 40 = .ok (.iconst 5, 1) := by decide +kernel
theorem dd_method_3_41 : decode method_3_code 41 = .ok (.if_icmp .ne 6, 3) := by decide +kernel
theorem dd_method_3_44 : decode method_3_code 44 = .ok (.ldc 22, 2) := by decide +kernel
theorem dd_method_3_46 : decode method_3_code 46 = .ok (.areturn, 1) := by decide +kernel
theorem dd_method_3_47 : decode method_3_code 47 = .ok (.aload_n 1, 1) := by decide +kernel
theorem dd_method_3_48 : decode method_3_code 48 = .ok (.areturn, 1) := by decide +kernel
set_option maxRecDepth 65536 in
set_option maxHeartbeats 40000000 in
theorem rm_typeOf (l : Launch) (Z : State) (a0 : Array Value) (hw : ∀ d ∈ tables_1, d.before a0 Z = true) (ws : List Jvm.Cond) (wG1 : Int32) (wO2 : Sta Z Z.heap "java/lang/String" "COMPACT_STRINGS" "Z" (.int wG1)) (wP5 : ¬ (wG1 = (0 : Int32))) (wG3 : Value) (wO4 : Sta Z Z.heap "jdk/internal/util/Preconditions" "SIOOBE_FORMATTER" "Ljava/util/function/BiFunction;" wG3) (wrG3 : wG3.isRef = true) (hstr : ∀ a ∈ Bundle.stringAtoms, a.before a0 Z = true) (wG5 : Addr) (wK5 : ClassId) (wO5 : Sta Z Z.heap "java/util/ArrayList" "DEFAULTCAPACITY_EMPTY_ELEMENTDATA" "[Ljava/lang/Object;" (.ref wG5)) (wV5 : Arv Z Z.heap wG5 wK5 (.object "java/lang/Object") (0 : Int32) [] .null) (wG6 : Addr) (wO6 : Sta Z Z.heap "java/util/Optional" "EMPTY" "Ljava/util/Optional;" (.ref wG6)) (wE6 : Exa Z Z.heap wG6 "java/util/Optional") (wF6 : Fld Z Z.heap wG6 "java/util/Optional" "value" "Ljava/lang/Object;" .null) (hEL : EW Z a0 consts_1) (h0 : Heap) (n0 : Nat) (X00 : Old Z n0 h0) (p1 : Int32) (a1 : Addr) (t1 : Addr) (k1 : ClassId) (N1 : Int32) (vs1 : List Value) (cs1 : List Int32) (f0 : Exa Z h0 a1 "java/lang/String") (f1 : Fld Z h0 a1 "java/lang/String" "value" "[B" (.ref t1)) (f2 : Fld Z h0 a1 "java/lang/String" "coder" "B" (.int (0 : Int32))) (f3 : Arv Z h0 t1 k1 .byte N1 vs1 (.int (0 : Int32))) (hos : OwnStr cs1 (0 : Int32) N1 vs1) (hl4 : cs1.length ≤ 4) (hkz : ¬ p1 < 0) :
    MetFree l (⟨"com/example/veilstone/veilstone/fhir/ElementElementsOfPinLaw", "typeOf", "(ILjava/lang/String;)Ljava/lang/String;"⟩ : MethodName) (head1 (Jvm.Cond.code (⟨"com/example/veilstone/veilstone/fhir/ElementElementsOfPinLaw", "typeOf", "(ILjava/lang/String;)Ljava/lang/String;"⟩ : MethodName) method_3_code 2 (some (.object "java/lang/String")) :: ws) ({ frames := 0, cells := 2, slots := 64, locals := 0 } : Room)) (fun a U => a = #[(.int p1), (.ref a1)] ∧ Z.Warmed39 U.vm ∧ U.heap = h0 ∧ CHv Z consts_1 U.vm h0) (fun _ _ _ _ _ => True) (fun _ U o U' => ∃ v L, o = .returned v ∧ Q_typeOf Z p1 a1 t1 k1 N1 vs1 cs1 h0 n0 v U'.heap L ∧ CHr Z consts_1 U.vm U.heap U'.vm U'.heap ∧ ReturnedEndW U o U' L ({ frames := 0, cells := 2, slots := 64, locals := 0 } : Room).cells ({ frames := 0, cells := 2, slots := 64, locals := 0 } : Room).slots) := by
  refine MetFree.of_bodySF (plainFor_of_name pn_17081231) hisR ?_
  intro p e s m args below meth c s₁ Bd hml0 hP hK
  obtain ⟨rfl, hZ, hh, hH⟩ := hP
  have hx := Bd.exec
  have hby := Bd.bytes
  have hlk := Bd.notSynchronized
  have hml : c.maxLocals = 2 := hml0
  have hown : s.vm.findClass "com/example/veilstone/veilstone/fhir/ElementElementsOfPinLaw" = some m.cls := findClass_of_methodNamed Bd.named
  have hnm := (name_of_methodNamed Bd.named Bd.method).1
  have X0 : Stand p l e ({ frames := 0, cells := 2, slots := 64, locals := 0 } : Room) (s.setVm s.vm) m #[(.int p1), (.ref a1)] below meth c s₁ [] 0 0 := Stand.of_body Bd
  have e0 : s₁.heap = h0 := by rw [← hh, Bd.state]; rfl
  have N0 := Fr.nil n0
  have Z0 : n0 ≤ h0.size := X00.1 ▸ X00.2.1
  have K0 : Keep h0 h0 ([] : List Addr) := Keep.refl _ _
  have R0 : CHr Z consts_1 s.vm h0 s.vm h0 := CHr.refl hH
  have hS0 : s.Since s.vm h0.size := State.WarmedH.since (State.WarmedH.refl s) _
  have hk0 : h0.size ≤ h0.size := Nat.le_refl _
  show OwnGoes p e below (fun o U' => ∃ v L, o = .returned v ∧ Q_typeOf Z p1 a1 t1 k1 N1 vs1 cs1 h0 n0 v U'.heap L ∧ CHr Z consts_1 s.vm s.heap U'.vm U'.heap ∧ ReturnedEndW s o U' L ({ frames := 0, cells := 2, slots := 64, locals := 0 } : Room).cells ({ frames := 0, cells := 2, slots := 64, locals := 0 } : Room).slots) s₁ (entryFrame m #[(.int p1), (.ref a1)] 2)
  refine OwnGoes.step (T' := s₁) (g' := (mkF m 0 #[.val (.int p1), .val (.ref a1)] [])) (fun tgt kgo => castTop (ef_typeOf m p1 a1) kgo) ?_
  refine OwnGoes.step (T' := s₁) (g' := (mkF m 1 #[.val (.int p1), .val (.ref a1)] [(.int p1)])) (fun tgt kgo => ?_) ?_
  · show Steps p.tables e below (s₁.setTop (mkF m 0 #[.val (.int p1), .val (.ref a1)] [])) tgt
    refine XS.iloadN X0.here hx rfl (hb hby dd_method_3_0) rfl ?_
    exact kgo
  by_cases cc1 : p1 = (0 : Int32)
  · skip
    refine OwnGoes.step (T' := s₁) (g' := (mkF m 4 #[.val (.int p1), .val (.ref a1)] [])) (fun tgt kgo => ?_) ?_
    · show Steps p.tables e below (s₁.setTop (mkF m 1 #[.val (.int p1), .val (.ref a1)] [(.int p1)])) tgt
      refine XS.ifNo X0.here hx rfl (hb hby dd_method_3_1) rfl ((if0 _ _).trans (teq cc1).2) ?_
      exact kgo
    obtain ⟨b2, T2, h2, kk2, t2, k2, X2, e2, E2, hS2, hk2, hZ2, ho2, A2, Fc2, Fv2, V2, lt2, lu2, Rc2, Lt2, ns2, st2⟩ := ldcCH X0 hx hZ hown (hw _ (List.mem_of_getElem? (i := 29) rfl)) hstr e0 hS0 hk0 hEL (by decide) R0.1 (vs := ((([66, 97, 99, 107, 98, 111, 110, 101, 69, 108, 101, 109, 101, 110, 116] : List Int32).map (fun c => c.toInt8.toInt32)).map Value.int)) (z := (15 : Int32)) (by decide +kernel) (by decide) (by decide +kernel) (g := (mkF m 4 #[.val (.int p1), .val (.ref a1)] [])) rfl (hb hby dd_method_3_4) (n := 60) (by decide) (by decide) (by decide) (by decide)
    refine OwnGoes.step (T' := T2) (g' := (mkF m 6 #[.val (.int p1), .val (.ref a1)] [(.ref b2)])) st2 ?_
    have F2_1 := f0.ext E2
    have F2_2 := f1.ext E2
    have F2_3 := f2.ext E2
    have F2_4 := f3.ext E2
    have Ol2 := X00.ext E2
    have K2 : Keep h0 h2 ([] : List Addr) := K0.ext E2
    have R2 := R0.trans Rc2
    have hos2 : OwnStr ([66, 97, 99, 107, 98, 111, 110, 101, 69, 108, 101, 109, 101, 110, 116] : List Int32) (0 : Int32) (15 : Int32) ((([66, 97, 99, 107, 98, 111, 110, 101, 69, 108, 101, 109, 101, 110, 116] : List Int32).map (fun c => c.toInt8.toInt32)).map Value.int) := own_str_lat (n := 15) rfl (by decide) (by decide +kernel)
    have hret : ∀ fs, (∀ (f : JFrame) (acts : List Action), f.method = m → f.locked = none → f.entered = [] → (doReturn e (T2.setTop f) acts (some (.ref b2))).1 = T2.setFrames fs) → Steps p.tables e below (T2.setTop (mkF m 6 #[.val (.int p1), .val (.ref a1)] [(.ref b2)])) (T2.setFrames fs) := by
      intro fs hr
      jvm_step X2.here [X2.here.top, hx, (hb hby dd_method_3_6), X2.method', Bd.returns, Value.isRef, FieldType.isReference]
      first | (intro acts; rw [hr _ acts rfl rfl rfl]) | rw [hr _ _ rfl rfl rfl]
      exact Steps.refl _
    refine own_leaveW (Z := Z) (EL := consts_1) X2 hS2 (e2 ▸ hk2) hlk (v := some (.ref b2)) (fun h => by rw [Bd.returns] at h; cases h) hret (by decide) (by decide) ?_ ?_
    · rw [hh, e2]
      exact R2.trans (CHv.at X2 hZ2 hEL R2.1)
    show Q_typeOf Z p1 a1 t1 k1 N1 vs1 cs1 h0 n0 _ T2.heap _
    rw [e2]
    exact ⟨b2, t2, k2, (15 : Int32), ((([66, 97, 99, 107, 98, 111, 110, 101, 69, 108, 101, 109, 101, 110, 116] : List Int32).map (fun c => c.toInt8.toInt32)).map Value.int), ([66, 97, 99, 107, 98, 111, 110, 101, 69, 108, 101, 109, 101, 110, 116] : List Int32), rfl, N0, K2, A2, Fv2, Fc2, V2, hos2, (Or.inl ⟨cc1 ▸ (by decide), Or.inl rfl⟩)⟩
  · skip
    refine OwnGoes.step (T' := s₁) (g' := (mkF m 9 #[.val (.int p1), .val (.ref a1)] [(.int (1 : Int32)), (.int p1)])) (fun tgt kgo => ?_) ?_
    · show Steps p.tables e below (s₁.setTop (mkF m 1 #[.val (.int p1), .val (.ref a1)] [(.int p1)])) tgt
      refine XS.ifYes X0.here hx rfl (pc0 := 1) (pc' := 7) rfl (hb hby dd_method_3_1) rfl ((if0 _ _).trans (feq cc1).2) (by decide) (by decide) ?_
      show Steps p.tables e below (s₁.setTop (mkF m 7 #[.val (.int p1), .val (.ref a1)] [])) tgt
      refine XS.iloadN X0.here hx rfl (hb hby dd_method_3_7) rfl ?_
      show Steps p.tables e below (s₁.setTop (mkF m 8 #[.val (.int p1), .val (.ref a1)] [(.int p1)])) tgt
      refine XS.iconst X0.here hx rfl (hb hby dd_method_3_8) ?_
      exact kgo
    by_cases cc4 : p1 = (1 : Int32)
    · skip
      refine OwnGoes.step (T' := s₁) (g' := (mkF m 12 #[.val (.int p1), .val (.ref a1)] [])) (fun tgt kgo => ?_) ?_
      · show Steps p.tables e below (s₁.setTop (mkF m 9 #[.val (.int p1), .val (.ref a1)] [(.int (1 : Int32)), (.int p1)])) tgt
        refine XS.icmpNo X0.here hx rfl (hb hby dd_method_3_9) rfl (teq cc4).2 ?_
        exact kgo
      obtain ⟨b5, T5, h5, kk5, t5, k5, X5, e5, E5, hS5, hk5, hZ5, ho5, A5, Fc5, Fv5, V5, lt5, lu5, Rc5, Lt5, ns5, st5⟩ := ldcCH X0 hx hZ hown (hw _ (List.mem_of_getElem? (i := 172) rfl)) hstr e0 hS0 hk0 hEL (by decide) R0.1 (vs := ((([69, 108, 101, 109, 101, 110, 116] : List Int32).map (fun c => c.toInt8.toInt32)).map Value.int)) (z := (7 : Int32)) (by decide +kernel) (by decide) (by decide +kernel) (g := (mkF m 12 #[.val (.int p1), .val (.ref a1)] [])) rfl (hb hby dd_method_3_12) (n := 28) (by decide) (by decide) (by decide) (by decide)
      refine OwnGoes.step (T' := T5) (g' := (mkF m 14 #[.val (.int p1), .val (.ref a1)] [(.ref b5)])) st5 ?_
      have F5_5 := f0.ext E5
      have F5_6 := f1.ext E5
      have F5_7 := f2.ext E5
      have F5_8 := f3.ext E5
      have Ol5 := X00.ext E5
      have K5 : Keep h0 h5 ([] : List Addr) := K0.ext E5
      have R5 := R0.trans Rc5
      have hos5 : OwnStr ([69, 108, 101, 109, 101, 110, 116] : List Int32) (0 : Int32) (7 : Int32) ((([69, 108, 101, 109, 101, 110, 116] : List Int32).map (fun c => c.toInt8.toInt32)).map Value.int) := own_str_lat (n := 7) rfl (by decide) (by decide +kernel)
      have hret : ∀ fs, (∀ (f : JFrame) (acts : List Action), f.method = m → f.locked = none → f.entered = [] → (doReturn e (T5.setTop f) acts (some (.ref b5))).1 = T5.setFrames fs) → Steps p.tables e below (T5.setTop (mkF m 14 #[.val (.int p1), .val (.ref a1)] [(.ref b5)])) (T5.setFrames fs) := by
        intro fs hr
        jvm_step X5.here [X5.here.top, hx, (hb hby dd_method_3_14), X5.method', Bd.returns, Value.isRef, FieldType.isReference]
        first | (intro acts; rw [hr _ acts rfl rfl rfl]) | rw [hr _ _ rfl rfl rfl]
        exact Steps.refl _
      refine own_leaveW (Z := Z) (EL := consts_1) X5 hS5 (e5 ▸ hk5) hlk (v := some (.ref b5)) (fun h => by rw [Bd.returns] at h; cases h) hret (by decide) (by decide) ?_ ?_
      · rw [hh, e5]
        exact R5.trans (CHv.at X5 hZ5 hEL R5.1)
      show Q_typeOf Z p1 a1 t1 k1 N1 vs1 cs1 h0 n0 _ T5.heap _
      rw [e5]
      exact ⟨b5, t5, k5, (7 : Int32), ((([69, 108, 101, 109, 101, 110, 116] : List Int32).map (fun c => c.toInt8.toInt32)).map Value.int), ([69, 108, 101, 109, 101, 110, 116] : List Int32), rfl, N0, K5, A5, Fv5, Fc5, V5, hos5, (Or.inl ⟨cc4 ▸ (by decide), Or.inr rfl⟩)⟩
    · skip
      refine OwnGoes.step (T' := s₁) (g' := (mkF m 17 #[.val (.int p1), .val (.ref a1)] [(.int (2 : Int32)), (.int p1)])) (fun tgt kgo => ?_) ?_
      · show Steps p.tables e below (s₁.setTop (mkF m 9 #[.val (.int p1), .val (.ref a1)] [(.int (1 : Int32)), (.int p1)])) tgt
        refine XS.icmpYes X0.here hx rfl (pc0 := 9) (pc' := 15) rfl (hb hby dd_method_3_9) rfl (feq cc4).2 (by decide) (by decide) ?_
        show Steps p.tables e below (s₁.setTop (mkF m 15 #[.val (.int p1), .val (.ref a1)] [])) tgt
        refine XS.iloadN X0.here hx rfl (hb hby dd_method_3_15) rfl ?_
        show Steps p.tables e below (s₁.setTop (mkF m 16 #[.val (.int p1), .val (.ref a1)] [(.int p1)])) tgt
        refine XS.iconst X0.here hx rfl (hb hby dd_method_3_16) ?_
        exact kgo
      by_cases cc7 : p1 = (2 : Int32)
      · skip
        refine OwnGoes.step (T' := s₁) (g' := (mkF m 20 #[.val (.int p1), .val (.ref a1)] [])) (fun tgt kgo => ?_) ?_
        · show Steps p.tables e below (s₁.setTop (mkF m 17 #[.val (.int p1), .val (.ref a1)] [(.int (2 : Int32)), (.int p1)])) tgt
          refine XS.icmpNo X0.here hx rfl (hb hby dd_method_3_17) rfl (teq cc7).2 ?_
          exact kgo
        obtain ⟨b8, T8, h8, kk8, t8, k8, X8, e8, E8, hS8, hk8, hZ8, ho8, A8, Fc8, Fv8, V8, lt8, lu8, Rc8, Lt8, ns8, st8⟩ := ldcCH X0 hx hZ hown (hw _ (List.mem_of_getElem? (i := 174) rfl)) hstr e0 hS0 hk0 hEL (by decide) R0.1 (vs := ((([101, 108, 101, 109, 101, 110, 116] : List Int32).map (fun c => c.toInt8.toInt32)).map Value.int)) (z := (7 : Int32)) (by decide +kernel) (by decide) (by decide +kernel) (g := (mkF m 20 #[.val (.int p1), .val (.ref a1)] [])) rfl (hb hby dd_method_3_20) (n := 28) (by decide) (by decide) (by decide) (by decide)
        refine OwnGoes.step (T' := T8) (g' := (mkF m 22 #[.val (.int p1), .val (.ref a1)] [(.ref b8)])) st8 ?_
        have F8_9 := f0.ext E8
        have F8_10 := f1.ext E8
        have F8_11 := f2.ext E8
        have F8_12 := f3.ext E8
        have Ol8 := X00.ext E8
        have K8 : Keep h0 h8 ([] : List Addr) := K0.ext E8
        have R8 := R0.trans Rc8
        have hos8 : OwnStr ([101, 108, 101, 109, 101, 110, 116] : List Int32) (0 : Int32) (7 : Int32) ((([101, 108, 101, 109, 101, 110, 116] : List Int32).map (fun c => c.toInt8.toInt32)).map Value.int) := own_str_lat (n := 7) rfl (by decide) (by decide +kernel)
        have hret : ∀ fs, (∀ (f : JFrame) (acts : List Action), f.method = m → f.locked = none → f.entered = [] → (doReturn e (T8.setTop f) acts (some (.ref b8))).1 = T8.setFrames fs) → Steps p.tables e below (T8.setTop (mkF m 22 #[.val (.int p1), .val (.ref a1)] [(.ref b8)])) (T8.setFrames fs) := by
          intro fs hr
          jvm_step X8.here [X8.here.top, hx, (hb hby dd_method_3_22), X8.method', Bd.returns, Value.isRef, FieldType.isReference]
          first | (intro acts; rw [hr _ acts rfl rfl rfl]) | rw [hr _ _ rfl rfl rfl]
          exact Steps.refl _
        refine own_leaveW (Z := Z) (EL := consts_1) X8 hS8 (e8 ▸ hk8) hlk (v := some (.ref b8)) (fun h => by rw [Bd.returns] at h; cases h) hret (by decide) (by decide) ?_ ?_
        · rw [hh, e8]
          exact R8.trans (CHv.at X8 hZ8 hEL R8.1)
        show Q_typeOf Z p1 a1 t1 k1 N1 vs1 cs1 h0 n0 _ T8.heap _
        rw [e8]
        exact ⟨b8, t8, k8, (7 : Int32), ((([101, 108, 101, 109, 101, 110, 116] : List Int32).map (fun c => c.toInt8.toInt32)).map Value.int), ([101, 108, 101, 109, 101, 110, 116] : List Int32), rfl, N0, K8, A8, Fv8, Fc8, V8, hos8, (Or.inr ⟨own_ge2 hkz cc1 cc4, by decide, by decide⟩)⟩
      · skip
        refine OwnGoes.step (T' := s₁) (g' := (mkF m 25 #[.val (.int p1), .val (.ref a1)] [(.int (3 : Int32)), (.int p1)])) (fun tgt kgo => ?_) ?_
        · show Steps p.tables e below (s₁.setTop (mkF m 17 #[.val (.int p1), .val (.ref a1)] [(.int (2 : Int32)), (.int p1)])) tgt
          refine XS.icmpYes X0.here hx rfl (pc0 := 17) (pc' := 23) rfl (hb hby dd_method_3_17) rfl (feq cc7).2 (by decide) (by decide) ?_
          show Steps p.tables e below (s₁.setTop (mkF m 23 #[.val (.int p1), .val (.ref a1)] [])) tgt
          refine XS.iloadN X0.here hx rfl (hb hby dd_method_3_23) rfl ?_
          show Steps p.tables e below (s₁.setTop (mkF m 24 #[.val (.int p1), .val (.ref a1)] [(.int p1)])) tgt
          refine XS.iconst X0.here hx rfl (hb hby dd_method_3_24) ?_
          exact kgo
        by_cases cc10 : p1 = (3 : Int32)
        · skip
          refine OwnGoes.step (T' := s₁) (g' := (mkF m 28 #[.val (.int p1), .val (.ref a1)] [])) (fun tgt kgo => ?_) ?_
          · show Steps p.tables e below (s₁.setTop (mkF m 25 #[.val (.int p1), .val (.ref a1)] [(.int (3 : Int32)), (.int p1)])) tgt
            refine XS.icmpNo X0.here hx rfl (hb hby dd_method_3_25) rfl (teq cc10).2 ?_
            exact kgo
          obtain ⟨b11, T11, h11, kk11, t11, k11, X11, e11, E11, hS11, hk11, hZ11, ho11, A11, Fc11, Fv11, V11, lt11, lu11, Rc11, Lt11, ns11, st11⟩ := ldcCH X0 hx hZ hown (hw _ (List.mem_of_getElem? (i := 171) rfl)) hstr e0 hS0 hk0 hEL (by decide) R0.1 (vs := ((([66, 97, 99, 107, 98, 111, 110, 101, 69, 108, 101, 109, 101, 110] : List Int32).map (fun c => c.toInt8.toInt32)).map Value.int)) (z := (14 : Int32)) (by decide +kernel) (by decide) (by decide +kernel) (g := (mkF m 28 #[.val (.int p1), .val (.ref a1)] [])) rfl (hb hby dd_method_3_28) (n := 56) (by decide) (by decide) (by decide) (by decide)
          refine OwnGoes.step (T' := T11) (g' := (mkF m 30 #[.val (.int p1), .val (.ref a1)] [(.ref b11)])) st11 ?_
          have F11_13 := f0.ext E11
          have F11_14 := f1.ext E11
          have F11_15 := f2.ext E11
          have F11_16 := f3.ext E11
          have Ol11 := X00.ext E11
          have K11 : Keep h0 h11 ([] : List Addr) := K0.ext E11
          have R11 := R0.trans Rc11
          have hos11 : OwnStr ([66, 97, 99, 107, 98, 111, 110, 101, 69, 108, 101, 109, 101, 110] : List Int32) (0 : Int32) (14 : Int32) ((([66, 97, 99, 107, 98, 111, 110, 101, 69, 108, 101, 109, 101, 110] : List Int32).map (fun c => c.toInt8.toInt32)).map Value.int) := own_str_lat (n := 14) rfl (by decide) (by decide +kernel)
          have hret : ∀ fs, (∀ (f : JFrame) (acts : List Action), f.method = m → f.locked = none → f.entered = [] → (doReturn e (T11.setTop f) acts (some (.ref b11))).1 = T11.setFrames fs) → Steps p.tables e below (T11.setTop (mkF m 30 #[.val (.int p1), .val (.ref a1)] [(.ref b11)])) (T11.setFrames fs) := by
            intro fs hr
            jvm_step X11.here [X11.here.top, hx, (hb hby dd_method_3_30), X11.method', Bd.returns, Value.isRef, FieldType.isReference]
            first | (intro acts; rw [hr _ acts rfl rfl rfl]) | rw [hr _ _ rfl rfl rfl]
            exact Steps.refl _
          refine own_leaveW (Z := Z) (EL := consts_1) X11 hS11 (e11 ▸ hk11) hlk (v := some (.ref b11)) (fun h => by rw [Bd.returns] at h; cases h) hret (by decide) (by decide) ?_ ?_
          · rw [hh, e11]
            exact R11.trans (CHv.at X11 hZ11 hEL R11.1)
          show Q_typeOf Z p1 a1 t1 k1 N1 vs1 cs1 h0 n0 _ T11.heap _
          rw [e11]
          exact ⟨b11, t11, k11, (14 : Int32), ((([66, 97, 99, 107, 98, 111, 110, 101, 69, 108, 101, 109, 101, 110] : List Int32).map (fun c => c.toInt8.toInt32)).map Value.int), ([66, 97, 99, 107, 98, 111, 110, 101, 69, 108, 101, 109, 101, 110] : List Int32), rfl, N0, K11, A11, Fv11, Fc11, V11, hos11, (Or.inr ⟨own_ge2 hkz cc1 cc4, by decide, by decide⟩)⟩
        · skip
          refine OwnGoes.step (T' := s₁) (g' := (mkF m 33 #[.val (.int p1), .val (.ref a1)] [(.int (4 : Int32)), (.int p1)])) (fun tgt kgo => ?_) ?_
          · show Steps p.tables e below (s₁.setTop (mkF m 25 #[.val (.int p1), .val (.ref a1)] [(.int (3 : Int32)), (.int p1)])) tgt
            refine XS.icmpYes X0.here hx rfl (pc0 := 25) (pc' := 31) rfl (hb hby dd_method_3_25) rfl (feq cc10).2 (by decide) (by decide) ?_
            show Steps p.tables e below (s₁.setTop (mkF m 31 #[.val (.int p1), .val (.ref a1)] [])) tgt
            refine XS.iloadN X0.here hx rfl (hb hby dd_method_3_31) rfl ?_
            show Steps p.tables e below (s₁.setTop (mkF m 32 #[.val (.int p1), .val (.ref a1)] [(.int p1)])) tgt
            refine XS.iconst X0.here hx rfl (hb hby dd_method_3_32) ?_
            exact kgo
          by_cases cc13 : p1 = (4 : Int32)
          · skip
            refine OwnGoes.step (T' := s₁) (g' := (mkF m 36 #[.val (.int p1), .val (.ref a1)] [])) (fun tgt kgo => ?_) ?_
            · show Steps p.tables e below (s₁.setTop (mkF m 33 #[.val (.int p1), .val (.ref a1)] [(.int (4 : Int32)), (.int p1)])) tgt
              refine XS.icmpNo X0.here hx rfl (hb hby dd_method_3_33) rfl (teq cc13).2 ?_
              exact kgo
            obtain ⟨b14, T14, h14, kk14, t14, k14, X14, e14, E14, hS14, hk14, hZ14, ho14, A14, Fc14, Fv14, V14, lt14, lu14, Rc14, Lt14, ns14, st14⟩ := ldcCH X0 hx hZ hown (hw _ (List.mem_of_getElem? (i := 170) rfl)) hstr e0 hS0 hk0 hEL (by decide) R0.1 (vs := ((([69, 108, 101, 109, 101, 110, 116, 115] : List Int32).map (fun c => c.toInt8.toInt32)).map Value.int)) (z := (8 : Int32)) (by decide +kernel) (by decide) (by decide +kernel) (g := (mkF m 36 #[.val (.int p1), .val (.ref a1)] [])) rfl (hb hby dd_method_3_36) (n := 32) (by decide) (by decide) (by decide) (by decide)
            refine OwnGoes.step (T' := T14) (g' := (mkF m 38 #[.val (.int p1), .val (.ref a1)] [(.ref b14)])) st14 ?_
            have F14_17 := f0.ext E14
            have F14_18 := f1.ext E14
            have F14_19 := f2.ext E14
            have F14_20 := f3.ext E14
            have Ol14 := X00.ext E14
            have K14 : Keep h0 h14 ([] : List Addr) := K0.ext E14
            have R14 := R0.trans Rc14
            have hos14 : OwnStr ([69, 108, 101, 109, 101, 110, 116, 115] : List Int32) (0 : Int32) (8 : Int32) ((([69, 108, 101, 109, 101, 110, 116, 115] : List Int32).map (fun c => c.toInt8.toInt32)).map Value.int) := own_str_lat (n := 8) rfl (by decide) (by decide +kernel)
            have hret : ∀ fs, (∀ (f : JFrame) (acts : List Action), f.method = m → f.locked = none → f.entered = [] → (doReturn e (T14.setTop f) acts (some (.ref b14))).1 = T14.setFrames fs) → Steps p.tables e below (T14.setTop (mkF m 38 #[.val (.int p1), .val (.ref a1)] [(.ref b14)])) (T14.setFrames fs) := by
              intro fs hr
              jvm_step X14.here [X14.here.top, hx, (hb hby dd_method_3_38), X14.method', Bd.returns, Value.isRef, FieldType.isReference]
              first | (intro acts; rw [hr _ acts rfl rfl rfl]) | rw [hr _ _ rfl rfl rfl]
              exact Steps.refl _
            refine own_leaveW (Z := Z) (EL := consts_1) X14 hS14 (e14 ▸ hk14) hlk (v := some (.ref b14)) (fun h => by rw [Bd.returns] at h; cases h) hret (by decide) (by decide) ?_ ?_
            · rw [hh, e14]
              exact R14.trans (CHv.at X14 hZ14 hEL R14.1)
            show Q_typeOf Z p1 a1 t1 k1 N1 vs1 cs1 h0 n0 _ T14.heap _
            rw [e14]
            exact ⟨b14, t14, k14, (8 : Int32), ((([69, 108, 101, 109, 101, 110, 116, 115] : List Int32).map (fun c => c.toInt8.toInt32)).map Value.int), ([69, 108, 101, 109, 101, 110, 116, 115] : List Int32), rfl, N0, K14, A14, Fv14, Fc14, V14, hos14, (Or.inr ⟨own_ge2 hkz cc1 cc4, by decide, by decide⟩)⟩
          · skip
            refine OwnGoes.step (T' := s₁) (g' := (mkF m 41 #[.val (.int p1), .val (.ref a1)] [(.int (5 : Int32)), (.int p1)])) (fun tgt kgo => ?_) ?_
            · show Steps p.tables e below (s₁.setTop (mkF m 33 #[.val (.int p1), .val (.ref a1)] [(.int (4 : Int32)), (.int p1)])) tgt
              refine XS.icmpYes X0.here hx rfl (pc0 := 33) (pc' := 39) rfl (hb hby dd_method_3_33) rfl (feq cc13).2 (by decide) (by decide) ?_
              show Steps p.tables e below (s₁.setTop (mkF m 39 #[.val (.int p1), .val (.ref a1)] [])) tgt
              refine XS.iloadN X0.here hx rfl (hb hby dd_method_3_39) rfl ?_
              show Steps p.tables e below (s₁.setTop (mkF m 40 #[.val (.int p1), .val (.ref a1)] [(.int p1)])) tgt
              refine XS.iconst X0.here hx rfl (hb hby dd_method_3_40) ?_
              exact kgo
            by_cases cc16 : p1 = (5 : Int32)
            · skip
              refine OwnGoes.step (T' := s₁) (g' := (mkF m 44 #[.val (.int p1), .val (.ref a1)] [])) (fun tgt kgo => ?_) ?_
              · show Steps p.tables e below (s₁.setTop (mkF m 41 #[.val (.int p1), .val (.ref a1)] [(.int (5 : Int32)), (.int p1)])) tgt
                refine XS.icmpNo X0.here hx rfl (hb hby dd_method_3_41) rfl (teq cc16).2 ?_
                exact kgo
              obtain ⟨b17, T17, h17, kk17, t17, k17, X17, e17, E17, hS17, hk17, hZ17, ho17, A17, Fc17, Fv17, V17, lt17, lu17, Rc17, Lt17, ns17, st17⟩ := ldcCH X0 hx hZ hown (hw _ (List.mem_of_getElem? (i := 173) rfl)) hstr e0 hS0 hk0 hEL (by decide) R0.1 (vs := ((([66, 97, 99, 107, 98, 111, 110, 101] : List Int32).map (fun c => c.toInt8.toInt32)).map Value.int)) (z := (8 : Int32)) (by decide +kernel) (by decide) (by decide +kernel) (g := (mkF m 44 #[.val (.int p1), .val (.ref a1)] [])) rfl (hb hby dd_method_3_44) (n := 32) (by decide) (by decide) (by decide) (by decide)
              refine OwnGoes.step (T' := T17) (g' := (mkF m 46 #[.val (.int p1), .val (.ref a1)] [(.ref b17)])) st17 ?_
              have F17_21 := f0.ext E17
              have F17_22 := f1.ext E17
              have F17_23 := f2.ext E17
              have F17_24 := f3.ext E17
              have Ol17 := X00.ext E17
              have K17 : Keep h0 h17 ([] : List Addr) := K0.ext E17
              have R17 := R0.trans Rc17
              have hos17 : OwnStr ([66, 97, 99, 107, 98, 111, 110, 101] : List Int32) (0 : Int32) (8 : Int32) ((([66, 97, 99, 107, 98, 111, 110, 101] : List Int32).map (fun c => c.toInt8.toInt32)).map Value.int) := own_str_lat (n := 8) rfl (by decide) (by decide +kernel)
              have hret : ∀ fs, (∀ (f : JFrame) (acts : List Action), f.method = m → f.locked = none → f.entered = [] → (doReturn e (T17.setTop f) acts (some (.ref b17))).1 = T17.setFrames fs) → Steps p.tables e below (T17.setTop (mkF m 46 #[.val (.int p1), .val (.ref a1)] [(.ref b17)])) (T17.setFrames fs) := by
                intro fs hr
                jvm_step X17.here [X17.here.top, hx, (hb hby dd_method_3_46), X17.method', Bd.returns, Value.isRef, FieldType.isReference]
                first | (intro acts; rw [hr _ acts rfl rfl rfl]) | rw [hr _ _ rfl rfl rfl]
                exact Steps.refl _
              refine own_leaveW (Z := Z) (EL := consts_1) X17 hS17 (e17 ▸ hk17) hlk (v := some (.ref b17)) (fun h => by rw [Bd.returns] at h; cases h) hret (by decide) (by decide) ?_ ?_
              · rw [hh, e17]
                exact R17.trans (CHv.at X17 hZ17 hEL R17.1)
              show Q_typeOf Z p1 a1 t1 k1 N1 vs1 cs1 h0 n0 _ T17.heap _
              rw [e17]
              exact ⟨b17, t17, k17, (8 : Int32), ((([66, 97, 99, 107, 98, 111, 110, 101] : List Int32).map (fun c => c.toInt8.toInt32)).map Value.int), ([66, 97, 99, 107, 98, 111, 110, 101] : List Int32), rfl, N0, K17, A17, Fv17, Fc17, V17, hos17, (Or.inr ⟨own_ge2 hkz cc1 cc4, by decide, by decide⟩)⟩
            · skip
              refine OwnGoes.step (T' := s₁) (g' := (mkF m 48 #[.val (.int p1), .val (.ref a1)] [(.ref a1)])) (fun tgt kgo => ?_) ?_
              · show Steps p.tables e below (s₁.setTop (mkF m 41 #[.val (.int p1), .val (.ref a1)] [(.int (5 : Int32)), (.int p1)])) tgt
                refine XS.icmpYes X0.here hx rfl (pc0 := 41) (pc' := 47) rfl (hb hby dd_method_3_41) rfl (feq cc16).2 (by decide) (by decide) ?_
                show Steps p.tables e below (s₁.setTop (mkF m 47 #[.val (.int p1), .val (.ref a1)] [])) tgt
                refine XS.aloadN X0.here hx rfl (hb hby dd_method_3_47) rfl rfl ?_
                exact kgo
              have hret : ∀ fs, (∀ (f : JFrame) (acts : List Action), f.method = m → f.locked = none → f.entered = [] → (doReturn e (s₁.setTop f) acts (some (.ref a1))).1 = s₁.setFrames fs) → Steps p.tables e below (s₁.setTop (mkF m 48 #[.val (.int p1), .val (.ref a1)] [(.ref a1)])) (s₁.setFrames fs) := by
                intro fs hr
                jvm_step X0.here [X0.here.top, hx, (hb hby dd_method_3_48), X0.method', Bd.returns, Value.isRef, FieldType.isReference]
                first | (intro acts; rw [hr _ acts rfl rfl rfl]) | rw [hr _ _ rfl rfl rfl]
                exact Steps.refl _
              refine own_leaveW (Z := Z) (EL := consts_1) X0 hS0 (e0 ▸ hk0) hlk (v := some (.ref a1)) (fun h => by rw [Bd.returns] at h; cases h) hret (by decide) (by decide) ?_ ?_
              · rw [hh, e0]
                exact R0.trans (CHv.at X0 hZ hEL R0.1)
              show Q_typeOf Z p1 a1 t1 k1 N1 vs1 cs1 h0 n0 _ s₁.heap _
              rw [e0]
              exact ⟨a1, t1, k1, N1, vs1, cs1, rfl, N0, K0, f0, f1, f2, f3, hos, (Or.inr ⟨own_ge2 hkz cc1 cc4, own_short hl4⟩)⟩
theorem ef_abc (m : MethodId) (x0 : Addr) : entryFrame m #[(.ref x0)] 1 = mkF m 0 #[.val (.ref x0)] [] := by first | (simp [entryFrame, mkF, argsToLocals, Value.category]; done) | rfl
def Q_abc (Z : State) (a1 : Addr) (h0 : Heap) (n0 : Nat) (v : Option Value) (h : Heap) (L : List Loc) : Prop := v = none ∧ Fr n0 L ∧ h = h0
theorem pn_18237359 : plainName "java/util/AbstractCollection" = true := by first | (simp [plainName, overriddenIn]; done) | decide +kernel
theorem dd_jdk_22_method_1_0 : decode jdk_22_method_1_code 0 = .ok (.aload_n 0, 1) := by decide +kernel
theorem dd_jdk_22_method_1_1 : decode jdk_22_method_1_code 1 = .ok (.invokespecial 1, 3) := by decide +kernel
theorem dd_jdk_22_method_1_4 : decode jdk_22_method_1_code 4 = .ok (.return_, 1) := by decide +kernel
set_option maxRecDepth 65536 in
set_option maxHeartbeats 40000000 in
theorem rm_abc (l : Launch) (Z : State) (a0 : Array Value) (hw : ∀ d ∈ tables_1, d.before a0 Z = true) (ws : List Jvm.Cond) (wG1 : Int32) (wO2 : Sta Z Z.heap "java/lang/String" "COMPACT_STRINGS" "Z" (.int wG1)) (wP5 : ¬ (wG1 = (0 : Int32))) (wG3 : Value) (wO4 : Sta Z Z.heap "jdk/internal/util/Preconditions" "SIOOBE_FORMATTER" "Ljava/util/function/BiFunction;" wG3) (wrG3 : wG3.isRef = true) (hstr : ∀ a ∈ Bundle.stringAtoms, a.before a0 Z = true) (wG5 : Addr) (wK5 : ClassId) (wO5 : Sta Z Z.heap "java/util/ArrayList" "DEFAULTCAPACITY_EMPTY_ELEMENTDATA" "[Ljava/lang/Object;" (.ref wG5)) (wV5 : Arv Z Z.heap wG5 wK5 (.object "java/lang/Object") (0 : Int32) [] .null) (wG6 : Addr) (wO6 : Sta Z Z.heap "java/util/Optional" "EMPTY" "Ljava/util/Optional;" (.ref wG6)) (wE6 : Exa Z Z.heap wG6 "java/util/Optional") (wF6 : Fld Z Z.heap wG6 "java/util/Optional" "value" "Ljava/lang/Object;" .null) (hEL : EW Z a0 consts_1) (h0 : Heap) (n0 : Nat) (X00 : Old Z n0 h0) (a1 : Addr) :
    MetFree l (⟨"java/util/AbstractCollection", "<init>", "()V"⟩ : MethodName) (head1 (Jvm.Cond.code (⟨"java/util/AbstractCollection", "<init>", "()V"⟩ : MethodName) jdk_22_method_1_code 1 none :: ws) ({ frames := 1, cells := 0, slots := 0, locals := 12 } : Room)) (fun a U => a = #[(.ref a1)] ∧ Z.Warmed39 U.vm ∧ U.heap = h0) (fun _ _ _ _ _ => True) (fun _ U o U' => ∃ v L, o = .returned v ∧ Q_abc Z a1 h0 n0 v U'.heap L ∧ FrameEnd U o U' L ({ frames := 1, cells := 0, slots := 0, locals := 12 } : Room).cells ({ frames := 1, cells := 0, slots := 0, locals := 12 } : Room).slots) := by
  refine MetFree.of_bodySF (plainFor_of_name pn_18237359) hisR ?_
  intro p e s m args below meth c s₁ Bd hml0 hP hK
  obtain ⟨rfl, hZ, hh⟩ := hP
  have hx := Bd.exec
  have hby := Bd.bytes
  have hlk := Bd.notSynchronized
  have hml : c.maxLocals = 1 := hml0
  have hown : s.vm.findClass "java/util/AbstractCollection" = some m.cls := findClass_of_methodNamed Bd.named
  have hnm := (name_of_methodNamed Bd.named Bd.method).1
  have X0 : Stand p l e ({ frames := 1, cells := 0, slots := 0, locals := 12 } : Room) s m #[(.ref a1)] below meth c s₁ [] 0 0 := Stand.of_body Bd
  have e0 : s₁.heap = h0 := by rw [← hh, Bd.state]; rfl
  have N0 := Fr.nil n0
  have Z0 : n0 ≤ h0.size := X00.1 ▸ X00.2.1
  have K0 : Keep h0 h0 ([] : List Addr) := Keep.refl _ _
  show OwnGoes p e below (fun o U' => ∃ v L, o = .returned v ∧ Q_abc Z a1 h0 n0 v U'.heap L ∧ FrameEnd s o U' L ({ frames := 1, cells := 0, slots := 0, locals := 12 } : Room).cells ({ frames := 1, cells := 0, slots := 0, locals := 12 } : Room).slots) s₁ (entryFrame m #[(.ref a1)] 1)
  refine OwnGoes.step (T' := s₁) (g' := (mkF m 0 #[.val (.ref a1)] [])) (fun tgt kgo => castTop (ef_abc m a1) kgo) ?_
  refine OwnGoes.step (T' := s₁) (g' := (mkF m 1 #[.val (.ref a1)] [(.ref a1)])) (fun tgt kgo => ?_) ?_
  · show Steps p.tables e below (s₁.setTop (mkF m 0 #[.val (.ref a1)] [])) tgt
    refine XS.aloadN X0.here hx rfl (hb hby dd_jdk_22_method_1_0) rfl rfl ?_
    exact kgo
  obtain ⟨T1, X1, e1, st1⟩ := initO X0 hx hZ hown (hw _ (List.mem_of_getElem? (i := 48) rfl)) (hw _ (List.mem_of_getElem? (i := 16) rfl)) (hw _ (List.mem_of_getElem? (i := 17) rfl)) e0 (g := (mkF m 1 #[.val (.ref a1)] [(.ref a1)])) rfl (by rw [hml]; rfl) rfl (hb hby dd_jdk_22_method_1_1) (by decide) (W := 0) (by show 2 * 0 + _ ≤ _; exact Nat.le_of_eq rfl) (by decide)
  refine OwnGoes.step (T' := T1) (g' := (mkF m 4 #[.val (.ref a1)] [])) st1 ?_
  refine own_leave X1 hlk (v := none) (fun _ => rfl) (fun fs hr => X1.returnOut hx Bd.returns (hb hby dd_jdk_22_method_1_4) hr) (by decide) (by decide) ?_
  show Q_abc Z a1 h0 n0 _ T1.heap _
  rw [e1]
  exact ⟨rfl, N0, rfl⟩
theorem ef_abl (m : MethodId) (x0 : Addr) : entryFrame m #[(.ref x0)] 1 = mkF m 0 #[.val (.ref x0)] [] := by first | (simp [entryFrame, mkF, argsToLocals, Value.category]; done) | rfl
def Q_abl (Z : State) (a1 : Addr) (u1 : Value) (u2 : Value) (u3 : Value) (h0 : Heap) (n0 : Nat) (v : Option Value) (h : Heap) (L : List Loc) : Prop := v = none ∧ Fr n0 L ∧ Keep h0 h ([a1] : List Addr) ∧ Exa Z h a1 "java/util/ArrayList" ∧ Fld Z h a1 "java/util/AbstractList" "modCount" "I" (.int (0 : Int32)) ∧ Fld Z h a1 "java/util/ArrayList" "elementData" "[Ljava/lang/Object;" u2 ∧ Fld Z h a1 "java/util/ArrayList" "size" "I" u3
theorem pn_23801202 : plainName "java/util/AbstractList" = true := by first | (simp [plainName, overriddenIn]; done) | decide +kernel
theorem dd_jdk_39_method_1_0 : decode jdk_39_method_1_code 0 = .ok (.aload_n 0, 1) := by decide +kernel
theorem dd_jdk_39_method_1_1 : decode jdk_39_method_1_code 1 = .ok (.invokespecial 1, 3) := by decide +kernel
theorem pd_57008992 : parseMethodDescriptor "()V" = some ⟨[], none⟩ := by decide +kernel
theorem dd_jdk_39_method_1_4 : decode jdk_39_method_1_code 4 = .ok (.aload_n 0, 1) := by decide +kernel
theorem dd_jdk_39_method_1_5 : decode jdk_39_method_1_code 5 = .ok (.iconst 0, 1) := by decide +kernel
theorem dd_jdk_39_method_1_6 : decode jdk_39_method_1_code 6 = .ok (.putfield 7, 3) := by decide +kernel
theorem dd_jdk_39_method_1_9 : decode jdk_39_method_1_code 9 = .ok (.return_, 1) := by decide +kernel
set_option maxRecDepth 65536 in
set_option maxHeartbeats 40000000 in
theorem rm_abl (l : Launch) (Z : State) (a0 : Array Value) (hw : ∀ d ∈ tables_1, d.before a0 Z = true) (ws : List Jvm.Cond) (wG1 : Int32) (wO2 : Sta Z Z.heap "java/lang/String" "COMPACT_STRINGS" "Z" (.int wG1)) (wP5 : ¬ (wG1 = (0 : Int32))) (wG3 : Value) (wO4 : Sta Z Z.heap "jdk/internal/util/Preconditions" "SIOOBE_FORMATTER" "Ljava/util/function/BiFunction;" wG3) (wrG3 : wG3.isRef = true) (hstr : ∀ a ∈ Bundle.stringAtoms, a.before a0 Z = true) (wG5 : Addr) (wK5 : ClassId) (wO5 : Sta Z Z.heap "java/util/ArrayList" "DEFAULTCAPACITY_EMPTY_ELEMENTDATA" "[Ljava/lang/Object;" (.ref wG5)) (wV5 : Arv Z Z.heap wG5 wK5 (.object "java/lang/Object") (0 : Int32) [] .null) (wG6 : Addr) (wO6 : Sta Z Z.heap "java/util/Optional" "EMPTY" "Ljava/util/Optional;" (.ref wG6)) (wE6 : Exa Z Z.heap wG6 "java/util/Optional") (wF6 : Fld Z Z.heap wG6 "java/util/Optional" "value" "Ljava/lang/Object;" .null) (hEL : EW Z a0 consts_1) (h0 : Heap) (n0 : Nat) (X00 : Old Z n0 h0) (a1 : Addr) (u1 : Value) (u2 : Value) (u3 : Value) (f0 : Exa Z h0 a1 "java/util/ArrayList") (f1 : Fld Z h0 a1 "java/util/AbstractList" "modCount" "I" u1) (f2 : Fld Z h0 a1 "java/util/ArrayList" "elementData" "[Ljava/lang/Object;" u2) (f3 : Fld Z h0 a1 "java/util/ArrayList" "size" "I" u3) (f4 : n0 ≤ a1) :
    MetFree l (⟨"java/util/AbstractList", "<init>", "()V"⟩ : MethodName) (head1 (Jvm.Cond.code (⟨"java/util/AbstractList", "<init>", "()V"⟩ : MethodName) jdk_39_method_1_code 1 none :: ws) ({ frames := 2, cells := 0, slots := 0, locals := 24 } : Room)) (fun a U => a = #[(.ref a1)] ∧ Z.Warmed39 U.vm ∧ U.heap = h0) (fun _ _ _ _ _ => True) (fun _ U o U' => ∃ v L, o = .returned v ∧ Q_abl Z a1 u1 u2 u3 h0 n0 v U'.heap L ∧ FrameEnd U o U' L ({ frames := 2, cells := 0, slots := 0, locals := 24 } : Room).cells ({ frames := 2, cells := 0, slots := 0, locals := 24 } : Room).slots) := by
  refine MetFree.of_bodySF (plainFor_of_name pn_23801202) hisR ?_
  intro p e s m args below meth c s₁ Bd hml0 hP hK
  obtain ⟨rfl, hZ, hh⟩ := hP
  have hx := Bd.exec
  have hby := Bd.bytes
  have hlk := Bd.notSynchronized
  have hml : c.maxLocals = 1 := hml0
  have hown : s.vm.findClass "java/util/AbstractList" = some m.cls := findClass_of_methodNamed Bd.named
  have hnm := (name_of_methodNamed Bd.named Bd.method).1
  have X0 : Stand p l e ({ frames := 2, cells := 0, slots := 0, locals := 24 } : Room) s m #[(.ref a1)] below meth c s₁ [] 0 0 := Stand.of_body Bd
  have e0 : s₁.heap = h0 := by rw [← hh, Bd.state]; rfl
  have N0 := Fr.nil n0
  have Z0 : n0 ≤ h0.size := X00.1 ▸ X00.2.1
  have K0 : Keep h0 h0 ([a1] : List Addr) := Keep.refl _ _
  show OwnGoes p e below (fun o U' => ∃ v L, o = .returned v ∧ Q_abl Z a1 u1 u2 u3 h0 n0 v U'.heap L ∧ FrameEnd s o U' L ({ frames := 2, cells := 0, slots := 0, locals := 24 } : Room).cells ({ frames := 2, cells := 0, slots := 0, locals := 24 } : Room).slots) s₁ (entryFrame m #[(.ref a1)] 1)
  refine OwnGoes.step (T' := s₁) (g' := (mkF m 0 #[.val (.ref a1)] [])) (fun tgt kgo => castTop (ef_abl m a1) kgo) ?_
  refine OwnGoes.step (T' := s₁) (g' := (mkF m 1 #[.val (.ref a1)] [(.ref a1)])) (fun tgt kgo => ?_) ?_
  · show Steps p.tables e below (s₁.setTop (mkF m 0 #[.val (.ref a1)] [])) tgt
    refine XS.aloadN X0.here hx rfl (hb hby dd_jdk_39_method_1_0) rfl rfl ?_
    exact kgo
  obtain ⟨_, _, ⟨T1, L1, k1, n1⟩, -, X1, ⟨Lc1, hQ1, l1, y1, z1⟩, st1⟩ := X0.specialBack hx (y := (⟨"java/util/AbstractCollection", "<init>", "()V"⟩ : MethodName)) rfl hown (mvT hZ (hw _ (List.mem_of_getElem? (i := 42) rfl))) (mvT hZ (hw _ (List.mem_of_getElem? (i := 43) rfl))) (mvT hZ (hw _ (List.mem_of_getElem? (i := 47) rfl))) (by decide) (backOf (W := 0) (rm_abc l Z a0 hw [] wG1 wO2 wP5 wG3 wO4 wrG3 hstr wG5 wK5 wO5 wV5 wG6 wO6 wE6 wF6 hEL h0 n0 X00 a1) hZ (hw _ (List.mem_of_getElem? (i := 47) rfl)) (hw _ (List.mem_of_getElem? (i := 46) rfl)) (by decide) (by decide)) (g := (mkF m 1 #[.val (.ref a1)] [(.ref a1)])) rfl (by rw [hml]; rfl) (Steps.refl _) (a := a1) (argsL := []) (rest := []) (lenOf pd_57008992 rfl) rfl (by show 2 * 0 + _ ≤ _; exact Nat.le_of_eq rfl) (hb hby dd_jdk_39_method_1_1) (fun _ _ => ⟨rfl, e0, (by decide : 0 + 0 ≤ _), (by decide : 0 + 0 ≤ _)⟩)
  dsimp only [Pt.U, Pt.locs, Pt.cells, Pt.slots] at X1 l1 y1 z1 st1 hQ1
  subst l1 y1 z1
  obtain ⟨rfl, Nq1, eq1⟩ := hQ1
  refine OwnGoes.tr (T' := T1) (g' := (mkF m 4 #[.val (.ref a1)] [])) st1 ?_
  have N1 := Fr.app N0 Nq1
  refine OwnGoes.step (T' := T1) (g' := (mkF m 6 #[.val (.ref a1)] [(.int (0 : Int32)), (.ref a1)])) (fun tgt kgo => ?_) ?_
  · show Steps p.tables e below (T1.setTop (mkF m 4 #[.val (.ref a1)] [])) tgt
    refine XS.aloadN X1.here hx rfl (hb hby dd_jdk_39_method_1_4) rfl rfl ?_
    show Steps p.tables e below (T1.setTop (mkF m 5 #[.val (.ref a1)] [(.ref a1)])) tgt
    refine XS.iconst X1.here hx rfl (hb hby dd_jdk_39_method_1_5) ?_
    exact kgo
  obtain ⟨T2, h2, X2, e2, W2, st2⟩ := putF X1 hx hZ hown (host := "") (Or.inl (hw _ (List.mem_of_getElem? (i := 49) rfl))) Via.refl eq1 f1 f0 (Or.inl (hw _ (List.mem_of_getElem? (i := 50) rfl))) (hw _ (List.mem_of_getElem? (i := 31) rfl)) (ty := .int) (by decide) rfl rfl (g := (mkF m 6 #[.val (.ref a1)] [(.int (0 : Int32)), (.ref a1)])) rfl rfl (hb hby dd_jdk_39_method_1_6)
  refine OwnGoes.step (T' := T2) (g' := (mkF m 9 #[.val (.ref a1)] [])) st2 ?_
  have Fw2 := f1.same W2
  have F2_1 := f0.wr W2
  have F2_2 := f2.other W2 (Or.inr (slot_ne (Or.inl (hw _ (List.mem_of_getElem? (i := 53) rfl))) (Or.inl (hw _ (List.mem_of_getElem? (i := 50) rfl))) (by decide) (t := (.array (.object "java/lang/Object"))) (t' := .int) (by decide) (by decide)))
  have F2_3 := f3.other W2 (Or.inr (slot_ne (Or.inl (hw _ (List.mem_of_getElem? (i := 66) rfl))) (Or.inl (hw _ (List.mem_of_getElem? (i := 50) rfl))) (by decide) (t := .int) (t' := .int) (by decide) (by decide)))
  have Ol2 := X00.wr W2 f4
  have K2 : Keep h0 h2 ([a1] : List Addr) := K0.wr W2 (Or.inl (List.mem_of_getElem? (i := 0) rfl))
  have N2 := Fr.snoc X2 N1 f4
  refine own_leave X2 hlk (v := none) (fun _ => rfl) (fun fs hr => X2.returnOut hx Bd.returns (hb hby dd_jdk_39_method_1_9) hr) (by decide) (by decide) ?_
  show Q_abl Z a1 u1 u2 u3 h0 n0 _ T2.heap _
  rw [e2]
  exact ⟨rfl, N2, K2, F2_1, Fw2, F2_2, F2_3⟩
theorem ef_ali (m : MethodId) (x0 : Addr) : entryFrame m #[(.ref x0)] 1 = mkF m 0 #[.val (.ref x0)] [] := by first | (simp [entryFrame, mkF, argsToLocals, Value.category]; done) | rfl
def Q_ali (Z : State) (wG5 : Addr) (a1 : Addr) (u1 : Value) (u2 : Value) (h0 : Heap) (n0 : Nat) (v : Option Value) (h : Heap) (L : List Loc) : Prop := v = none ∧ Fr n0 L ∧ Keep h0 h ([a1] : List Addr) ∧ Exa Z h a1 "java/util/ArrayList" ∧ Fld Z h a1 "java/util/AbstractList" "modCount" "I" (.int (0 : Int32)) ∧ Fld Z h a1 "java/util/ArrayList" "elementData" "[Ljava/lang/Object;" (.ref wG5) ∧ Fld Z h a1 "java/util/ArrayList" "size" "I" (.int (0 : Int32))
theorem pn_13458729 : plainName "java/util/ArrayList" = true := by first | (simp [plainName, overriddenIn]; done) | decide +kernel
theorem dd_jdk_38_method_2_0 : decode jdk_38_method_2_code 0 = .ok (.aload_n 0, 1) := by decide +kernel
theorem dd_jdk_38_method_2_1 : decode jdk_38_method_2_code 1 = .ok (.invokespecial 1, 3) := by decide +kernel
theorem dd_jdk_38_method_2_4 : decode jdk_38_method_2_code 4 = .ok (.aload_n 0, 1) := by decide +kernel
theorem dd_jdk_38_method_2_5 : decode jdk_38_method_2_code 5 = .ok (.getstatic 39, 3) := by decide +kernel
theorem dd_jdk_38_method_2_8 : decode jdk_38_method_2_code 8 = .ok (.putfield 9, 3) := by decide +kernel
theorem dd_jdk_38_method_2_11 : decode jdk_38_method_2_code 11 = .ok (.return_, 1) := by decide +kernel
set_option maxRecDepth 65536 in
set_option maxHeartbeats 40000000 in
theorem rm_ali (l : Launch) (Z : State) (a0 : Array Value) (hw : ∀ d ∈ tables_1, d.before a0 Z = true) (ws : List Jvm.Cond) (wG1 : Int32) (wO2 : Sta Z Z.heap "java/lang/String" "COMPACT_STRINGS" "Z" (.int wG1)) (wP5 : ¬ (wG1 = (0 : Int32))) (wG3 : Value) (wO4 : Sta Z Z.heap "jdk/internal/util/Preconditions" "SIOOBE_FORMATTER" "Ljava/util/function/BiFunction;" wG3) (wrG3 : wG3.isRef = true) (hstr : ∀ a ∈ Bundle.stringAtoms, a.before a0 Z = true) (wG5 : Addr) (wK5 : ClassId) (wO5 : Sta Z Z.heap "java/util/ArrayList" "DEFAULTCAPACITY_EMPTY_ELEMENTDATA" "[Ljava/lang/Object;" (.ref wG5)) (wV5 : Arv Z Z.heap wG5 wK5 (.object "java/lang/Object") (0 : Int32) [] .null) (wG6 : Addr) (wO6 : Sta Z Z.heap "java/util/Optional" "EMPTY" "Ljava/util/Optional;" (.ref wG6)) (wE6 : Exa Z Z.heap wG6 "java/util/Optional") (wF6 : Fld Z Z.heap wG6 "java/util/Optional" "value" "Ljava/lang/Object;" .null) (hEL : EW Z a0 consts_1) (h0 : Heap) (n0 : Nat) (X00 : Old Z n0 h0) (a1 : Addr) (u1 : Value) (u2 : Value) (f0 : Exa Z h0 a1 "java/util/ArrayList") (f1 : Fld Z h0 a1 "java/util/AbstractList" "modCount" "I" u1) (f2 : Fld Z h0 a1 "java/util/ArrayList" "elementData" "[Ljava/lang/Object;" u2) (f3 : Fld Z h0 a1 "java/util/ArrayList" "size" "I" (.int (0 : Int32))) (f4 : n0 ≤ a1) :
    MetFree l (⟨"java/util/ArrayList", "<init>", "()V"⟩ : MethodName) (head1 (Jvm.Cond.code (⟨"java/util/ArrayList", "<init>", "()V"⟩ : MethodName) jdk_38_method_2_code 1 none :: ws) ({ frames := 3, cells := 0, slots := 0, locals := 36 } : Room)) (fun a U => a = #[(.ref a1)] ∧ Z.Warmed39 U.vm ∧ U.heap = h0) (fun _ _ _ _ _ => True) (fun _ U o U' => ∃ v L, o = .returned v ∧ Q_ali Z wG5 a1 u1 u2 h0 n0 v U'.heap L ∧ FrameEnd U o U' L ({ frames := 3, cells := 0, slots := 0, locals := 36 } : Room).cells ({ frames := 3, cells := 0, slots := 0, locals := 36 } : Room).slots) := by
  refine MetFree.of_bodySF (plainFor_of_name pn_13458729) hisR ?_
  intro p e s m args below meth c s₁ Bd hml0 hP hK
  obtain ⟨rfl, hZ, hh⟩ := hP
  have hx := Bd.exec
  have hby := Bd.bytes
  have hlk := Bd.notSynchronized
  have hml : c.maxLocals = 1 := hml0
  have hown : s.vm.findClass "java/util/ArrayList" = some m.cls := findClass_of_methodNamed Bd.named
  have hnm := (name_of_methodNamed Bd.named Bd.method).1
  have X0 : Stand p l e ({ frames := 3, cells := 0, slots := 0, locals := 36 } : Room) s m #[(.ref a1)] below meth c s₁ [] 0 0 := Stand.of_body Bd
  have e0 : s₁.heap = h0 := by rw [← hh, Bd.state]; rfl
  have N0 := Fr.nil n0
  have Z0 : n0 ≤ h0.size := X00.1 ▸ X00.2.1
  have K0 : Keep h0 h0 ([a1] : List Addr) := Keep.refl _ _
  show OwnGoes p e below (fun o U' => ∃ v L, o = .returned v ∧ Q_ali Z wG5 a1 u1 u2 h0 n0 v U'.heap L ∧ FrameEnd s o U' L ({ frames := 3, cells := 0, slots := 0, locals := 36 } : Room).cells ({ frames := 3, cells := 0, slots := 0, locals := 36 } : Room).slots) s₁ (entryFrame m #[(.ref a1)] 1)
  refine OwnGoes.step (T' := s₁) (g' := (mkF m 0 #[.val (.ref a1)] [])) (fun tgt kgo => castTop (ef_ali m a1) kgo) ?_
  refine OwnGoes.step (T' := s₁) (g' := (mkF m 1 #[.val (.ref a1)] [(.ref a1)])) (fun tgt kgo => ?_) ?_
  · show Steps p.tables e below (s₁.setTop (mkF m 0 #[.val (.ref a1)] [])) tgt
    refine XS.aloadN X0.here hx rfl (hb hby dd_jdk_38_method_2_0) rfl rfl ?_
    exact kgo
  obtain ⟨_, _, ⟨T1, L1, k1, n1⟩, -, X1, ⟨Lc1, hQ1, l1, y1, z1⟩, st1⟩ := X0.specialBack hx (y := (⟨"java/util/AbstractList", "<init>", "()V"⟩ : MethodName)) rfl hown (mvT hZ (hw _ (List.mem_of_getElem? (i := 36) rfl))) (mvT hZ (hw _ (List.mem_of_getElem? (i := 37) rfl))) (mvT hZ (hw _ (List.mem_of_getElem? (i := 41) rfl))) (by decide) (backOf (W := 0) (rm_abl l Z a0 hw [] wG1 wO2 wP5 wG3 wO4 wrG3 hstr wG5 wK5 wO5 wV5 wG6 wO6 wE6 wF6 hEL h0 n0 X00 a1 u1 u2 (.int (0 : Int32)) f0 f1 f2 f3 f4) hZ (hw _ (List.mem_of_getElem? (i := 41) rfl)) (hw _ (List.mem_of_getElem? (i := 40) rfl)) (by decide) (by decide)) (g := (mkF m 1 #[.val (.ref a1)] [(.ref a1)])) rfl (by rw [hml]; rfl) (Steps.refl _) (a := a1) (argsL := []) (rest := []) (lenOf pd_57008992 rfl) rfl (by show 2 * 0 + _ ≤ _; exact Nat.le_of_eq rfl) (hb hby dd_jdk_38_method_2_1) (fun _ _ => ⟨rfl, e0, (by decide : 0 + 0 ≤ _), (by decide : 0 + 0 ≤ _)⟩)
  dsimp only [Pt.U, Pt.locs, Pt.cells, Pt.slots] at X1 l1 y1 z1 st1 hQ1
  subst l1 y1 z1
  obtain ⟨rfl, Nq1, Kq1, fq1_0, fq1_1, fq1_2, fq1_3⟩ := hQ1
  refine OwnGoes.tr (T' := T1) (g' := (mkF m 4 #[.val (.ref a1)] [])) st1 ?_
  have N1 := Fr.app N0 Nq1
  have F1_1 := f0.keep Kq1
  have Ol1 := X00.keep Kq1 (allS f4 all0)
  have K1 : Keep h0 T1.heap ([a1] : List Addr) := K0.trans Kq1 (allS (Or.inl (List.mem_of_getElem? (i := 0) rfl)) all0)
  refine OwnGoes.step (T' := T1) (g' := (mkF m 5 #[.val (.ref a1)] [(.ref a1)])) (fun tgt kgo => ?_) ?_
  · show Steps p.tables e below (T1.setTop (mkF m 4 #[.val (.ref a1)] [])) tgt
    refine XS.aloadN X1.here hx rfl (hb hby dd_jdk_38_method_2_4) rfl rfl ?_
    exact kgo
  obtain ⟨T2, X2, e2, st2⟩ := getS2 X1 hx hZ hown (host := "") (Or.inl (hw _ (List.mem_of_getElem? (i := 51) rfl))) Via.refl rfl (wO5.ext Ol1.2) (g := (mkF m 5 #[.val (.ref a1)] [(.ref a1)])) rfl (hb hby dd_jdk_38_method_2_5)
  refine OwnGoes.step (T' := T2) (g' := (mkF m 8 #[.val (.ref a1)] [(.ref wG5), (.ref a1)])) st2 ?_
  obtain ⟨T3, h3, X3, e3, W3, st3⟩ := putF X2 hx hZ hown (host := "") (Or.inl (hw _ (List.mem_of_getElem? (i := 52) rfl))) Via.refl e2 fq1_2 fq1_0 (Or.inl (hw _ (List.mem_of_getElem? (i := 53) rfl))) (hw _ (List.mem_of_getElem? (i := 31) rfl)) (ty := (.array (.object "java/lang/Object"))) (by decide) rfl rfl (g := (mkF m 8 #[.val (.ref a1)] [(.ref wG5), (.ref a1)])) rfl rfl (hb hby dd_jdk_38_method_2_8)
  refine OwnGoes.step (T' := T3) (g' := (mkF m 11 #[.val (.ref a1)] [])) st3 ?_
  have Fw3 := fq1_2.same W3
  have F3_2 := fq1_0.wr W3
  have F3_3 := fq1_1.other W3 (Or.inr (slot_ne (Or.inl (hw _ (List.mem_of_getElem? (i := 50) rfl))) (Or.inl (hw _ (List.mem_of_getElem? (i := 53) rfl))) (by decide) (t := .int) (t' := (.array (.object "java/lang/Object"))) (by decide) (by decide)))
  have F3_4 := fq1_3.other W3 (Or.inr (slot_ne (Or.inl (hw _ (List.mem_of_getElem? (i := 66) rfl))) (Or.inl (hw _ (List.mem_of_getElem? (i := 53) rfl))) (by decide) (t := .int) (t' := (.array (.object "java/lang/Object"))) (by decide) (by decide)))
  have Ol3 := Ol1.wr W3 f4
  have K3 : Keep h0 h3 ([a1] : List Addr) := K1.wr W3 (Or.inl (List.mem_of_getElem? (i := 0) rfl))
  have N3 := Fr.snoc X3 N1 f4
  refine own_leave X3 hlk (v := none) (fun _ => rfl) (fun fs hr => X3.returnOut hx Bd.returns (hb hby dd_jdk_38_method_2_11) hr) (by decide) (by decide) ?_
  show Q_ali Z wG5 a1 u1 u2 h0 n0 _ T3.heap _
  rw [e3]
  exact ⟨rfl, N3, K3, F3_2, F3_3, Fw3, F3_4⟩
theorem ef_max10 (m : MethodId)  : entryFrame m #[(.int (10 : Int32)), (.int (1 : Int32))] 2 = mkF m 0 #[.val (.int (10 : Int32)), .val (.int (1 : Int32))] [] := by first | (simp [entryFrame, mkF, argsToLocals, Value.category]; done) | rfl
def Q_max10 (Z : State)  (h0 : Heap) (n0 : Nat) (v : Option Value) (h : Heap) (L : List Loc) : Prop := v = some (.int (10 : Int32)) ∧ Fr n0 L ∧ h = h0
theorem dd_jdk_29_method_65_0 : decode jdk_29_method_65_code 0 = .ok (.iload_n 0, 1) := by decide +kernel
theorem dd_jdk_29_method_65_1 : decode jdk_29_method_65_code 1 = .ok (.iload_n 1, 1) := by decide +kernel
theorem dd_jdk_29_method_65_2 : decode jdk_29_method_65_code 2 = .ok (.if_icmp .lt 7, 3) := by decide +kernel
theorem dd_jdk_29_method_65_5 : decode jdk_29_method_65_code 5 = .ok (.iload_n 0, 1) := by decide +kernel
theorem dd_jdk_29_method_65_6 : decode jdk_29_method_65_code 6 = .ok (.goto 4, 3) := by decide +kernel
theorem dd_jdk_29_method_65_10 : decode jdk_29_method_65_code 10 = .ok (.ireturn, 1) := by decide +kernel
set_option maxRecDepth 65536 in
set_option maxHeartbeats 40000000 in
theorem rm_max10 (l : Launch) (Z : State) (a0 : Array Value) (hw : ∀ d ∈ tables_1, d.before a0 Z = true) (ws : List Jvm.Cond) (wG1 : Int32) (wO2 : Sta Z Z.heap "java/lang/String" "COMPACT_STRINGS" "Z" (.int wG1)) (wP5 : ¬ (wG1 = (0 : Int32))) (wG3 : Value) (wO4 : Sta Z Z.heap "jdk/internal/util/Preconditions" "SIOOBE_FORMATTER" "Ljava/util/function/BiFunction;" wG3) (wrG3 : wG3.isRef = true) (hstr : ∀ a ∈ Bundle.stringAtoms, a.before a0 Z = true) (wG5 : Addr) (wK5 : ClassId) (wO5 : Sta Z Z.heap "java/util/ArrayList" "DEFAULTCAPACITY_EMPTY_ELEMENTDATA" "[Ljava/lang/Object;" (.ref wG5)) (wV5 : Arv Z Z.heap wG5 wK5 (.object "java/lang/Object") (0 : Int32) [] .null) (wG6 : Addr) (wO6 : Sta Z Z.heap "java/util/Optional" "EMPTY" "Ljava/util/Optional;" (.ref wG6)) (wE6 : Exa Z Z.heap wG6 "java/util/Optional") (wF6 : Fld Z Z.heap wG6 "java/util/Optional" "value" "Ljava/lang/Object;" .null) (hEL : EW Z a0 consts_1) (h0 : Heap) (n0 : Nat) (X00 : Old Z n0 h0)  :
    MetFree l (⟨"java/lang/Math", "max", "(II)I"⟩ : MethodName) (head1 (Jvm.Cond.code (⟨"java/lang/Math", "max", "(II)I"⟩ : MethodName) jdk_29_method_65_code 2 (some .int) :: ws) ({ frames := 0, cells := 0, slots := 0, locals := 0 } : Room)) (fun a U => a = #[(.int (10 : Int32)), (.int (1 : Int32))] ∧ Z.Warmed39 U.vm ∧ U.heap = h0) (fun _ _ _ _ _ => True) (fun _ U o U' => ∃ v L, o = .returned v ∧ Q_max10 Z  h0 n0 v U'.heap L ∧ FrameEnd U o U' L ({ frames := 0, cells := 0, slots := 0, locals := 0 } : Room).cells ({ frames := 0, cells := 0, slots := 0, locals := 0 } : Room).slots) := by
  refine MetFree.of_bodySF (Jvm.Free.JP.mathPlain rfl (by decide +kernel)) hisR ?_
  intro p e s m args below meth c s₁ Bd hml0 hP hK
  obtain ⟨rfl, hZ, hh⟩ := hP
  have hx := Bd.exec
  have hby := Bd.bytes
  have hlk := Bd.notSynchronized
  have hml : c.maxLocals = 2 := hml0
  have hown : s.vm.findClass "java/lang/Math" = some m.cls := findClass_of_methodNamed Bd.named
  have hnm := (name_of_methodNamed Bd.named Bd.method).1
  have X0 : Stand p l e ({ frames := 0, cells := 0, slots := 0, locals := 0 } : Room) s m #[(.int (10 : Int32)), (.int (1 : Int32))] below meth c s₁ [] 0 0 := Stand.of_body Bd
  have e0 : s₁.heap = h0 := by rw [← hh, Bd.state]; rfl
  have N0 := Fr.nil n0
  have Z0 : n0 ≤ h0.size := X00.1 ▸ X00.2.1
  have K0 : Keep h0 h0 ([] : List Addr) := Keep.refl _ _
  show OwnGoes p e below (fun o U' => ∃ v L, o = .returned v ∧ Q_max10 Z  h0 n0 v U'.heap L ∧ FrameEnd s o U' L ({ frames := 0, cells := 0, slots := 0, locals := 0 } : Room).cells ({ frames := 0, cells := 0, slots := 0, locals := 0 } : Room).slots) s₁ (entryFrame m #[(.int (10 : Int32)), (.int (1 : Int32))] 2)
  refine OwnGoes.step (T' := s₁) (g' := (mkF m 0 #[.val (.int (10 : Int32)), .val (.int (1 : Int32))] [])) (fun tgt kgo => castTop (ef_max10 m ) kgo) ?_
  refine OwnGoes.step (T' := s₁) (g' := (mkF m 10 #[.val (.int (10 : Int32)), .val (.int (1 : Int32))] [(.int (10 : Int32))])) (fun tgt kgo => ?_) ?_
  · show Steps p.tables e below (s₁.setTop (mkF m 0 #[.val (.int (10 : Int32)), .val (.int (1 : Int32))] [])) tgt
    refine XS.iloadN X0.here hx rfl (hb hby dd_jdk_29_method_65_0) rfl ?_
    show Steps p.tables e below (s₁.setTop (mkF m 1 #[.val (.int (10 : Int32)), .val (.int (1 : Int32))] [(.int (10 : Int32))])) tgt
    refine XS.iloadN X0.here hx rfl (hb hby dd_jdk_29_method_65_1) rfl ?_
    show Steps p.tables e below (s₁.setTop (mkF m 2 #[.val (.int (10 : Int32)), .val (.int (1 : Int32))] [(.int (1 : Int32)), (.int (10 : Int32))])) tgt
    refine XS.icmpNo X0.here hx rfl (hb hby dd_jdk_29_method_65_2) rfl (flt (by decide : ¬ ((10 : Int32) < (1 : Int32)))).1 ?_
    show Steps p.tables e below (s₁.setTop (mkF m 5 #[.val (.int (10 : Int32)), .val (.int (1 : Int32))] [])) tgt
    refine XS.iloadN X0.here hx rfl (hb hby dd_jdk_29_method_65_5) rfl ?_
    show Steps p.tables e below (s₁.setTop (mkF m 6 #[.val (.int (10 : Int32)), .val (.int (1 : Int32))] [(.int (10 : Int32))])) tgt
    refine XS.goto X0.here hx rfl (pc0 := 6) (pc' := 10) rfl (hb hby dd_jdk_29_method_65_6) (by decide) (by decide) ?_
    exact kgo
  refine own_leave X0 hlk (v := some (.int (10 : Int32))) (fun h => by rw [Bd.returns] at h; cases h) (fun fs hr => retI X0 hx Bd.returns (hb hby dd_jdk_29_method_65_10) hr) (by decide) (by decide) ?_
  show Q_max10 Z  h0 n0 _ s₁.heap _
  rw [e0]
  exact ⟨rfl, N0, rfl⟩
theorem ef_grow1 (m : MethodId) (x0 : Addr) : entryFrame m #[(.ref x0), (.int (1 : Int32))] 4 = mkF m 0 #[.val (.ref x0), .val (.int (1 : Int32)), .unset, .unset] [] := by first | (simp [entryFrame, mkF, argsToLocals, Value.category]; done) | rfl
def Q_grow1 (Z : State) (a1 : Addr) (u1 : Value) (h0 : Heap) (n0 : Nat) (v : Option Value) (h : Heap) (L : List Loc) : Prop := ∃ (b : Addr), ∃ (kb : ClassId), v = some (.ref b) ∧ Fr n0 L ∧ Keep h0 h ([a1] : List Addr) ∧ h0.size ≤ b ∧ Exa Z h a1 "java/util/ArrayList" ∧ Fld Z h a1 "java/util/ArrayList" "size" "I" (.int (0 : Int32)) ∧ Arv Z h b kb (.object "java/lang/Object") (10 : Int32) [.null, .null, .null, .null, .null, .null, .null, .null, .null, .null] .null ∧ (Ovr Z kb "java/lang/Object")
theorem dd_jdk_38_method_6_0 : decode jdk_38_method_6_code 0 = .ok (.aload_n 0, 1) := by decide +kernel
theorem dd_jdk_38_method_6_1 : decode jdk_38_method_6_code 1 = .ok (.getfield 9, 3) := by decide +kernel
theorem dd_jdk_38_method_6_4 : decode jdk_38_method_6_code 4 = .ok (.arraylength, 1) := by decide +kernel
theorem dd_jdk_38_method_6_5 : decode jdk_38_method_6_code 5 = .ok (.istore_n 2, 1) := by decide +kernel
theorem dd_jdk_38_method_6_6 : decode jdk_38_method_6_code 6 = .ok (.iload_n 2, 1) := by decide +kernel
theorem dd_jdk_38_method_6_7 : decode jdk_38_method_6_code 7 = .ok (.ifCond .gt 13, 3) := by decide +kernel
theorem dd_jdk_38_method_6_10 : decode jdk_38_method_6_code 10 = .ok (.aload_n 0, 1) := by decide +kernel
theorem dd_jdk_38_method_6_11 : decode jdk_38_method_6_code 11 = .ok (.getfield 9, 3) := by decide +kernel
theorem dd_jdk_38_method_6_14 : decode jdk_38_method_6_code 14 = .ok (.getstatic 39, 3) := by decide +kernel
theorem dd_jdk_38_method_6_17 : decode jdk_38_method_6_code 17 = .ok (.if_acmp .eq 28, 3) := by decide +kernel
theorem dd_jdk_38_method_6_45 : decode jdk_38_method_6_code 45 = .ok (.aload_n 0, 1) := by decide +kernel
theorem dd_jdk_38_method_6_46 : decode jdk_38_method_6_code 46 = .ok (.bipush 10, 2) := by decide +kernel
theorem dd_jdk_38_method_6_48 : decode jdk_38_method_6_code 48 = .ok (.iload_n 1, 1) := by decide +kernel
theorem dd_jdk_38_method_6_49 : decode jdk_38_method_6_code 49 = .ok (.invokestatic 79, 3) := by decide +kernel
theorem pd_50523903 : parseMethodDescriptor "(II)I" = some ⟨[.int, .int], some .int⟩ := by decide +kernel
theorem dd_jdk_38_method_6_52 : decode jdk_38_method_6_code 52 = .ok (.anewarray 7, 3) := by decide +kernel
theorem dd_jdk_38_method_6_55 : decode jdk_38_method_6_code 55 = .ok (.dup_x1, 1) := by decide +kernel
theorem dd_jdk_38_method_6_56 : decode jdk_38_method_6_code 56 = .ok (.putfield 9, 3) := by decide +kernel
theorem dd_jdk_38_method_6_59 : decode jdk_38_method_6_code 59 = .ok (.areturn, 1) := by decide +kernel
set_option maxRecDepth 65536 in
set_option maxHeartbeats 40000000 in
theorem rm_grow1 (l : Launch) (Z : State) (a0 : Array Value) (hw : ∀ d ∈ tables_1, d.before a0 Z = true) (ws : List Jvm.Cond) (wG1 : Int32) (wO2 : Sta Z Z.heap "java/lang/String" "COMPACT_STRINGS" "Z" (.int wG1)) (wP5 : ¬ (wG1 = (0 : Int32))) (wG3 : Value) (wO4 : Sta Z Z.heap "jdk/internal/util/Preconditions" "SIOOBE_FORMATTER" "Ljava/util/function/BiFunction;" wG3) (wrG3 : wG3.isRef = true) (hstr : ∀ a ∈ Bundle.stringAtoms, a.before a0 Z = true) (wG5 : Addr) (wK5 : ClassId) (wO5 : Sta Z Z.heap "java/util/ArrayList" "DEFAULTCAPACITY_EMPTY_ELEMENTDATA" "[Ljava/lang/Object;" (.ref wG5)) (wV5 : Arv Z Z.heap wG5 wK5 (.object "java/lang/Object") (0 : Int32) [] .null) (wG6 : Addr) (wO6 : Sta Z Z.heap "java/util/Optional" "EMPTY" "Ljava/util/Optional;" (.ref wG6)) (wE6 : Exa Z Z.heap wG6 "java/util/Optional") (wF6 : Fld Z Z.heap wG6 "java/util/Optional" "value" "Ljava/lang/Object;" .null) (hEL : EW Z a0 consts_1) (h0 : Heap) (n0 : Nat) (X00 : Old Z n0 h0) (a1 : Addr) (u1 : Value) (f0 : Exa Z h0 a1 "java/util/ArrayList") (f1 : Fld Z h0 a1 "java/util/AbstractList" "modCount" "I" u1) (f2 : Fld Z h0 a1 "java/util/ArrayList" "elementData" "[Ljava/lang/Object;" (.ref wG5)) (f3 : Fld Z h0 a1 "java/util/ArrayList" "size" "I" (.int (0 : Int32))) (f4 : n0 ≤ a1) :
    MetFree l (⟨"java/util/ArrayList", "grow", "(I)[Ljava/lang/Object;"⟩ : MethodName) (head1 (Jvm.Cond.code (⟨"java/util/ArrayList", "grow", "(I)[Ljava/lang/Object;"⟩ : MethodName) jdk_38_method_6_code 4 (some (.array (.object "java/lang/Object"))) :: ws) ({ frames := 1, cells := 1, slots := 10, locals := 14 } : Room)) (fun a U => a = #[(.ref a1), (.int (1 : Int32))] ∧ Z.Warmed39 U.vm ∧ U.heap = h0) (fun _ _ _ _ _ => True) (fun _ U o U' => ∃ v L, o = .returned v ∧ Q_grow1 Z a1 u1 h0 n0 v U'.heap L ∧ FrameEnd U o U' L ({ frames := 1, cells := 1, slots := 10, locals := 14 } : Room).cells ({ frames := 1, cells := 1, slots := 10, locals := 14 } : Room).slots) := by
  refine MetFree.of_bodySF (plainFor_of_name pn_13458729) hisR ?_
  intro p e s m args below meth c s₁ Bd hml0 hP hK
  obtain ⟨rfl, hZ, hh⟩ := hP
  have hx := Bd.exec
  have hby := Bd.bytes
  have hlk := Bd.notSynchronized
  have hml : c.maxLocals = 4 := hml0
  have hown : s.vm.findClass "java/util/ArrayList" = some m.cls := findClass_of_methodNamed Bd.named
  have hnm := (name_of_methodNamed Bd.named Bd.method).1
  have X0 : Stand p l e ({ frames := 1, cells := 1, slots := 10, locals := 14 } : Room) s m #[(.ref a1), (.int (1 : Int32))] below meth c s₁ [] 0 0 := Stand.of_body Bd
  have e0 : s₁.heap = h0 := by rw [← hh, Bd.state]; rfl
  have N0 := Fr.nil n0
  have Z0 : n0 ≤ h0.size := X00.1 ▸ X00.2.1
  have K0 : Keep h0 h0 ([a1] : List Addr) := Keep.refl _ _
  have fg_wG5_0 := wV5.ext X00.2
  have lt_wG5 : wG5 < n0 := X00.1 ▸ wV5.lt
  show OwnGoes p e below (fun o U' => ∃ v L, o = .returned v ∧ Q_grow1 Z a1 u1 h0 n0 v U'.heap L ∧ FrameEnd s o U' L ({ frames := 1, cells := 1, slots := 10, locals := 14 } : Room).cells ({ frames := 1, cells := 1, slots := 10, locals := 14 } : Room).slots) s₁ (entryFrame m #[(.ref a1), (.int (1 : Int32))] 4)
  refine OwnGoes.step (T' := s₁) (g' := (mkF m 0 #[.val (.ref a1), .val (.int (1 : Int32)), .unset, .unset] [])) (fun tgt kgo => castTop (ef_grow1 m a1) kgo) ?_
  refine OwnGoes.step (T' := s₁) (g' := (mkF m 1 #[.val (.ref a1), .val (.int (1 : Int32)), .unset, .unset] [(.ref a1)])) (fun tgt kgo => ?_) ?_
  · show Steps p.tables e below (s₁.setTop (mkF m 0 #[.val (.ref a1), .val (.int (1 : Int32)), .unset, .unset] [])) tgt
    refine XS.aloadN X0.here hx rfl (hb hby dd_jdk_38_method_6_0) rfl rfl ?_
    exact kgo
  obtain ⟨T1, X1, e1, st1⟩ := getF X0 hx hZ hown (host := "") (Or.inl (hw _ (List.mem_of_getElem? (i := 52) rfl))) Via.refl e0 f2 (g := (mkF m 1 #[.val (.ref a1), .val (.int (1 : Int32)), .unset, .unset] [(.ref a1)])) rfl rfl (hb hby dd_jdk_38_method_6_1)
  refine OwnGoes.step (T' := T1) (g' := (mkF m 4 #[.val (.ref a1), .val (.int (1 : Int32)), .unset, .unset] [(.ref wG5)])) st1 ?_
  refine OwnGoes.step (T' := T1) (g' := (mkF m 11 #[.val (.ref a1), .val (.int (1 : Int32)), .val (.int (0 : Int32)), .unset] [(.ref a1)])) (fun tgt kgo => ?_) ?_
  · show Steps p.tables e below (T1.setTop (mkF m 4 #[.val (.ref a1), .val (.int (1 : Int32)), .unset, .unset] [(.ref wG5)])) tgt
    obtain ⟨cl2, Ar2, q2, S2, M2, -, -⟩ := fg_wG5_0
    refine X1.arraylength hx (by rw [e1]; exact Ar2.1) (State.isArrayOf_alike hZ.alike Ar2.2.1) (g := (mkF m 4 #[.val (.ref a1), .val (.int (1 : Int32)), .unset, .unset] [(.ref wG5)])) rfl rfl (hb hby dd_jdk_38_method_6_4) _ ?_
    rw [len_of S2 M2]
    show Steps p.tables e below (T1.setTop (mkF m 5 #[.val (.ref a1), .val (.int (1 : Int32)), .unset, .unset] [(.int (0 : Int32))])) tgt
    refine XS.istoreN X1.here hx rfl (hb hby dd_jdk_38_method_6_5) rfl (l' := #[.val (.ref a1), .val (.int (1 : Int32)), .val (.int (0 : Int32)), .unset]) rfl ?_
    show Steps p.tables e below (T1.setTop (mkF m 6 #[.val (.ref a1), .val (.int (1 : Int32)), .val (.int (0 : Int32)), .unset] [])) tgt
    refine XS.iloadN X1.here hx rfl (hb hby dd_jdk_38_method_6_6) rfl ?_
    show Steps p.tables e below (T1.setTop (mkF m 7 #[.val (.ref a1), .val (.int (1 : Int32)), .val (.int (0 : Int32)), .unset] [(.int (0 : Int32))])) tgt
    refine XS.ifNo X1.here hx rfl (hb hby dd_jdk_38_method_6_7) rfl ((if0 _ _).trans (flt (by decide : ¬ ((0 : Int32) < (0 : Int32)))).2.2.1) ?_
    show Steps p.tables e below (T1.setTop (mkF m 10 #[.val (.ref a1), .val (.int (1 : Int32)), .val (.int (0 : Int32)), .unset] [])) tgt
    refine XS.aloadN X1.here hx rfl (hb hby dd_jdk_38_method_6_10) rfl rfl ?_
    exact kgo
  obtain ⟨T3, X3, e3, st3⟩ := getF X1 hx hZ hown (host := "") (Or.inl (hw _ (List.mem_of_getElem? (i := 52) rfl))) Via.refl e1 f2 (g := (mkF m 11 #[.val (.ref a1), .val (.int (1 : Int32)), .val (.int (0 : Int32)), .unset] [(.ref a1)])) rfl rfl (hb hby dd_jdk_38_method_6_11)
  refine OwnGoes.step (T' := T3) (g' := (mkF m 14 #[.val (.ref a1), .val (.int (1 : Int32)), .val (.int (0 : Int32)), .unset] [(.ref wG5)])) st3 ?_
  obtain ⟨T4, X4, e4, st4⟩ := getS2 X3 hx hZ hown (host := "") (Or.inl (hw _ (List.mem_of_getElem? (i := 51) rfl))) Via.refl e3 (wO5.ext X00.2) (g := (mkF m 14 #[.val (.ref a1), .val (.int (1 : Int32)), .val (.int (0 : Int32)), .unset] [(.ref wG5)])) rfl (hb hby dd_jdk_38_method_6_14)
  refine OwnGoes.step (T' := T4) (g' := (mkF m 17 #[.val (.ref a1), .val (.int (1 : Int32)), .val (.int (0 : Int32)), .unset] [(.ref wG5), (.ref wG5)])) st4 ?_
  refine OwnGoes.step (T' := T4) (g' := (mkF m 49 #[.val (.ref a1), .val (.int (1 : Int32)), .val (.int (0 : Int32)), .unset] [(.int (1 : Int32)), (.int (10 : Int32)), (.ref a1)])) (fun tgt kgo => ?_) ?_
  · show Steps p.tables e below (T4.setTop (mkF m 17 #[.val (.ref a1), .val (.int (1 : Int32)), .val (.int (0 : Int32)), .unset] [(.ref wG5), (.ref wG5)])) tgt
    refine Jvm.RoadKit.acmp (g := (mkF m 17 #[.val (.ref a1), .val (.int (1 : Int32)), .val (.int (0 : Int32)), .unset] [(.ref wG5), (.ref wG5)])) X4 hx rfl rfl rfl (pc0 := 17) (pc' := 45) (same := true) rfl (hb hby dd_jdk_38_method_6_17) rfl (decide_eq_true rfl) (by decide) (by decide) ?_
    show Steps p.tables e below (T4.setTop (mkF m 45 #[.val (.ref a1), .val (.int (1 : Int32)), .val (.int (0 : Int32)), .unset] [])) tgt
    refine XS.aloadN X4.here hx rfl (hb hby dd_jdk_38_method_6_45) rfl rfl ?_
    show Steps p.tables e below (T4.setTop (mkF m 46 #[.val (.ref a1), .val (.int (1 : Int32)), .val (.int (0 : Int32)), .unset] [(.ref a1)])) tgt
    refine XS.bipush X4.here hx rfl (hb hby dd_jdk_38_method_6_46) ?_
    show Steps p.tables e below (T4.setTop (mkF m 48 #[.val (.ref a1), .val (.int (1 : Int32)), .val (.int (0 : Int32)), .unset] [(.int (10 : Int32)), (.ref a1)])) tgt
    refine XS.iloadN X4.here hx rfl (hb hby dd_jdk_38_method_6_48) rfl ?_
    exact kgo
  obtain ⟨_, _, ⟨T5, L5, k5, n5⟩, -, X5, ⟨Lc5, hQ5, l5, y5, z5⟩, st5⟩ := Jvm.LawKit.callS X4 hx (y := (⟨"java/lang/Math", "max", "(II)I"⟩ : MethodName)) hown (mvT hZ (hw _ (List.mem_of_getElem? (i := 82) rfl))) (mvT hZ (hw _ (List.mem_of_getElem? (i := 83) rfl))) (mvT hZ (hw _ (List.mem_of_getElem? (i := 84) rfl))) (mvT hZ (hw _ (List.mem_of_getElem? (i := 85) rfl))) (by decide) (backOf (W := 1) (rm_max10 l Z a0 hw [] wG1 wO2 wP5 wG3 wO4 wrG3 hstr wG5 wK5 wO5 wV5 wG6 wO6 wE6 wF6 hEL h0 n0 X00 ) hZ (hw _ (List.mem_of_getElem? (i := 85) rfl)) (hw _ (List.mem_of_getElem? (i := 84) rfl)) (by decide) (by decide)) (g := (mkF m 49 #[.val (.ref a1), .val (.int (1 : Int32)), .val (.int (0 : Int32)), .unset] [(.int (1 : Int32)), (.int (10 : Int32)), (.ref a1)])) rfl (by rw [hml]; rfl) (argsL := [(.int (10 : Int32)), (.int (1 : Int32))]) (rest := [(.ref a1)]) (lenOf pd_50523903 rfl) rfl (by show 2 * 0 + _ ≤ _; exact Nat.le_of_eq rfl) (hb hby dd_jdk_38_method_6_49) (fun _ _ => ⟨rfl, e4, (by decide : 0 + 0 ≤ _), (by decide : 0 + 0 ≤ _)⟩)
  dsimp only [Pt.U, Pt.locs, Pt.cells, Pt.slots] at X5 l5 y5 z5 st5 hQ5
  subst l5 y5 z5
  obtain ⟨rfl, Nq5, eq5⟩ := hQ5
  refine OwnGoes.step (T' := T5) (g' := (mkF m 52 #[.val (.ref a1), .val (.int (1 : Int32)), .val (.int (0 : Int32)), .unset] [(.int (10 : Int32)), (.ref a1)])) st5 ?_
  have N5 := Fr.app N0 Nq5
  obtain ⟨T6, h6, k6, X6, e6, E6, A6, Ov6, st6⟩ := newR X5 hx hZ hown (hw _ (List.mem_of_getElem? (i := 86) rfl)) (hw _ (List.mem_of_getElem? (i := 87) rfl)) eq5 (g := (mkF m 52 #[.val (.ref a1), .val (.int (1 : Int32)), .val (.int (0 : Int32)), .unset] [(.int (10 : Int32)), (.ref a1)])) rfl (hb hby dd_jdk_38_method_6_52) rfl (by decide) (cap := 10) (by decide) (by decide) (by decide) (by decide)
  obtain ⟨b6, g6⟩ : ∃ z, z = h0.size := ⟨_, rfl⟩
  rw [← g6] at A6 st6
  refine OwnGoes.step (T' := T6) (g' := (mkF m 55 #[.val (.ref a1), .val (.int (1 : Int32)), .val (.int (0 : Int32)), .unset] [(.ref b6), (.ref a1)])) st6 ?_
  have V6 : Arv Z h6 b6 k6 (.object "java/lang/Object") (10 : Int32) [.null, .null, .null, .null, .null, .null, .null, .null, .null, .null] .null := (Arv.new A6 (by decide)).pad (pad_rep [] .null 10)
  have ne_a1_b6 : a1 ≠ b6 := Nat.ne_of_lt (Nat.lt_of_lt_of_le f0.lt (Nat.le_of_eq g6.symm))
  have ne_wG5_b6 : wG5 ≠ b6 := Nat.ne_of_lt (Nat.lt_of_lt_of_le fg_wG5_0.lt (Nat.le_of_eq g6.symm))
  have g_b6 : n0 ≤ b6 := Nat.le_trans (Nat.le_trans Z0 K0.1) (Nat.le_of_eq g6.symm)
  have s_b6 : h0.size ≤ b6 := Nat.le_trans K0.1 (Nat.le_of_eq g6.symm)
  have F6_1 := f0.ext E6
  have F6_2 := f1.ext E6
  have F6_3 := f2.ext E6
  have F6_4 := f3.ext E6
  have F6_5 := fg_wG5_0.ext E6
  have Ol6 := X00.ext E6
  have K6 : Keep h0 h6 ([a1] : List Addr) := K0.ext E6
  refine OwnGoes.step (T' := T6) (g' := (mkF m 56 #[.val (.ref a1), .val (.int (1 : Int32)), .val (.int (0 : Int32)), .unset] [(.ref b6), (.ref a1), (.ref b6)])) (fun tgt kgo => ?_) ?_
  · show Steps p.tables e below (T6.setTop (mkF m 55 #[.val (.ref a1), .val (.int (1 : Int32)), .val (.int (0 : Int32)), .unset] [(.ref b6), (.ref a1)])) tgt
    refine XS.dupX1 X6.here hx rfl (hb hby dd_jdk_38_method_6_55) rfl rfl rfl ?_
    exact kgo
  obtain ⟨T7, h7, X7, e7, W7, st7⟩ := putF X6 hx hZ hown (host := "") (Or.inl (hw _ (List.mem_of_getElem? (i := 52) rfl))) Via.refl e6 F6_3 F6_1 (Or.inl (hw _ (List.mem_of_getElem? (i := 53) rfl))) (hw _ (List.mem_of_getElem? (i := 31) rfl)) (ty := (.array (.object "java/lang/Object"))) (by decide) rfl rfl (g := (mkF m 56 #[.val (.ref a1), .val (.int (1 : Int32)), .val (.int (0 : Int32)), .unset] [(.ref b6), (.ref a1), (.ref b6)])) rfl rfl (hb hby dd_jdk_38_method_6_56)
  refine OwnGoes.step (T' := T7) (g' := (mkF m 59 #[.val (.ref a1), .val (.int (1 : Int32)), .val (.int (0 : Int32)), .unset] [(.ref b6)])) st7 ?_
  have Fw7 := F6_3.same W7
  have F7_6 := F6_1.wr W7
  have F7_7 := F6_2.other W7 (Or.inr (slot_ne (Or.inl (hw _ (List.mem_of_getElem? (i := 50) rfl))) (Or.inl (hw _ (List.mem_of_getElem? (i := 53) rfl))) (by decide) (t := .int) (t' := (.array (.object "java/lang/Object"))) (by decide) (by decide)))
  have F7_8 := F6_4.other W7 (Or.inr (slot_ne (Or.inl (hw _ (List.mem_of_getElem? (i := 66) rfl))) (Or.inl (hw _ (List.mem_of_getElem? (i := 53) rfl))) (by decide) (t := .int) (t' := (.array (.object "java/lang/Object"))) (by decide) (by decide)))
  have F7_9 := F6_5.other W7 (Ne.symm (Exa.neArv F6_1 F6_5 (hw _ (List.mem_of_getElem? (i := 31) rfl))))
  have F7_10 := V6.other W7 (Ne.symm ne_a1_b6)
  have Ol7 := Ol6.wr W7 f4
  have K7 : Keep h0 h7 ([a1] : List Addr) := K6.wr W7 (Or.inl (List.mem_of_getElem? (i := 0) rfl))
  have N7 := Fr.snoc X7 N5 f4
  have hret : ∀ fs, (∀ (f : JFrame) (acts : List Action), f.method = m → f.locked = none → f.entered = [] → (doReturn e (T7.setTop f) acts (some (.ref b6))).1 = T7.setFrames fs) → Steps p.tables e below (T7.setTop (mkF m 59 #[.val (.ref a1), .val (.int (1 : Int32)), .val (.int (0 : Int32)), .unset] [(.ref b6)])) (T7.setFrames fs) := by
    intro fs hr
    jvm_step X7.here [X7.here.top, hx, (hb hby dd_jdk_38_method_6_59), X7.method', Bd.returns, Value.isRef, FieldType.isReference]
    first | (intro acts; rw [hr _ acts rfl rfl rfl]) | rw [hr _ _ rfl rfl rfl]
    exact Steps.refl _
  refine own_leave X7 hlk (v := some (.ref b6)) (fun h => by rw [Bd.returns] at h; cases h) hret (by decide) (by decide) ?_
  show Q_grow1 Z a1 u1 h0 n0 _ T7.heap _
  rw [e7]
  exact ⟨b6, k6, rfl, N7, K7, s_b6, F7_6, F7_8, F7_10, Ov6⟩
theorem ef_grow0 (m : MethodId) (x0 : Addr) : entryFrame m #[(.ref x0)] 1 = mkF m 0 #[.val (.ref x0)] [] := by first | (simp [entryFrame, mkF, argsToLocals, Value.category]; done) | rfl
def Q_grow0 (Z : State) (a1 : Addr) (u1 : Value) (h0 : Heap) (n0 : Nat) (v : Option Value) (h : Heap) (L : List Loc) : Prop := ∃ (b : Addr), ∃ (kb : ClassId), v = some (.ref b) ∧ Fr n0 L ∧ Keep h0 h ([a1] : List Addr) ∧ h0.size ≤ b ∧ Exa Z h a1 "java/util/ArrayList" ∧ Fld Z h a1 "java/util/ArrayList" "size" "I" (.int (0 : Int32)) ∧ Arv Z h b kb (.object "java/lang/Object") (10 : Int32) [.null, .null, .null, .null, .null, .null, .null, .null, .null, .null] .null ∧ (Ovr Z kb "java/lang/Object")
theorem dd_jdk_38_method_7_0 : decode jdk_38_method_7_code 0 = .ok (.aload_n 0, 1) := by decide +kernel
theorem dd_jdk_38_method_7_1 : decode jdk_38_method_7_code 1 = .ok (.aload_n 0, 1) := by decide +kernel
theorem dd_jdk_38_method_7_2 : decode jdk_38_method_7_code 2 = .ok (.getfield 48, 3) := by decide +kernel
theorem dd_jdk_38_method_7_5 : decode jdk_38_method_7_code 5 = .ok (.iconst 1, 1) := by decide +kernel
theorem dd_jdk_38_method_7_6 : decode jdk_38_method_7_code 6 = .ok (.iadd, 1) := by decide +kernel
theorem dd_jdk_38_method_7_7 : decode jdk_38_method_7_code 7 = .ok (.invokevirtual 69, 3) := by decide +kernel
theorem pd_18615735 : parseMethodDescriptor "(I)[Ljava/lang/Object;" = some ⟨[.int], some (.array (.object "java/lang/Object"))⟩ := by decide +kernel
theorem dd_jdk_38_method_7_10 : decode jdk_38_method_7_code 10 = .ok (.areturn, 1) := by decide +kernel
set_option maxRecDepth 65536 in
set_option maxHeartbeats 40000000 in
theorem rm_grow0 (l : Launch) (Z : State) (a0 : Array Value) (hw : ∀ d ∈ tables_1, d.before a0 Z = true) (ws : List Jvm.Cond) (wG1 : Int32) (wO2 : Sta Z Z.heap "java/lang/String" "COMPACT_STRINGS" "Z" (.int wG1)) (wP5 : ¬ (wG1 = (0 : Int32))) (wG3 : Value) (wO4 : Sta Z Z.heap "jdk/internal/util/Preconditions" "SIOOBE_FORMATTER" "Ljava/util/function/BiFunction;" wG3) (wrG3 : wG3.isRef = true) (hstr : ∀ a ∈ Bundle.stringAtoms, a.before a0 Z = true) (wG5 : Addr) (wK5 : ClassId) (wO5 : Sta Z Z.heap "java/util/ArrayList" "DEFAULTCAPACITY_EMPTY_ELEMENTDATA" "[Ljava/lang/Object;" (.ref wG5)) (wV5 : Arv Z Z.heap wG5 wK5 (.object "java/lang/Object") (0 : Int32) [] .null) (wG6 : Addr) (wO6 : Sta Z Z.heap "java/util/Optional" "EMPTY" "Ljava/util/Optional;" (.ref wG6)) (wE6 : Exa Z Z.heap wG6 "java/util/Optional") (wF6 : Fld Z Z.heap wG6 "java/util/Optional" "value" "Ljava/lang/Object;" .null) (hEL : EW Z a0 consts_1) (h0 : Heap) (n0 : Nat) (X00 : Old Z n0 h0) (a1 : Addr) (u1 : Value) (f0 : Exa Z h0 a1 "java/util/ArrayList") (f1 : Fld Z h0 a1 "java/util/AbstractList" "modCount" "I" u1) (f2 : Fld Z h0 a1 "java/util/ArrayList" "elementData" "[Ljava/lang/Object;" (.ref wG5)) (f3 : Fld Z h0 a1 "java/util/ArrayList" "size" "I" (.int (0 : Int32))) (f4 : n0 ≤ a1) :
    MetFree l (⟨"java/util/ArrayList", "grow", "()[Ljava/lang/Object;"⟩ : MethodName) (head1 (Jvm.Cond.code (⟨"java/util/ArrayList", "grow", "()[Ljava/lang/Object;"⟩ : MethodName) jdk_38_method_7_code 1 (some (.array (.object "java/lang/Object"))) :: ws) ({ frames := 2, cells := 1, slots := 10, locals := 29 } : Room)) (fun a U => a = #[(.ref a1)] ∧ Z.Warmed39 U.vm ∧ U.heap = h0) (fun _ _ _ _ _ => True) (fun _ U o U' => ∃ v L, o = .returned v ∧ Q_grow0 Z a1 u1 h0 n0 v U'.heap L ∧ FrameEnd U o U' L ({ frames := 2, cells := 1, slots := 10, locals := 29 } : Room).cells ({ frames := 2, cells := 1, slots := 10, locals := 29 } : Room).slots) := by
  refine MetFree.of_bodySF (plainFor_of_name pn_13458729) hisR ?_
  intro p e s m args below meth c s₁ Bd hml0 hP hK
  obtain ⟨rfl, hZ, hh⟩ := hP
  have hx := Bd.exec
  have hby := Bd.bytes
  have hlk := Bd.notSynchronized
  have hml : c.maxLocals = 1 := hml0
  have hown : s.vm.findClass "java/util/ArrayList" = some m.cls := findClass_of_methodNamed Bd.named
  have hnm := (name_of_methodNamed Bd.named Bd.method).1
  have X0 : Stand p l e ({ frames := 2, cells := 1, slots := 10, locals := 29 } : Room) s m #[(.ref a1)] below meth c s₁ [] 0 0 := Stand.of_body Bd
  have e0 : s₁.heap = h0 := by rw [← hh, Bd.state]; rfl
  have N0 := Fr.nil n0
  have Z0 : n0 ≤ h0.size := X00.1 ▸ X00.2.1
  have K0 : Keep h0 h0 ([a1] : List Addr) := Keep.refl _ _
  have fg_wG5_0 := wV5.ext X00.2
  have lt_wG5 : wG5 < n0 := X00.1 ▸ wV5.lt
  show OwnGoes p e below (fun o U' => ∃ v L, o = .returned v ∧ Q_grow0 Z a1 u1 h0 n0 v U'.heap L ∧ FrameEnd s o U' L ({ frames := 2, cells := 1, slots := 10, locals := 29 } : Room).cells ({ frames := 2, cells := 1, slots := 10, locals := 29 } : Room).slots) s₁ (entryFrame m #[(.ref a1)] 1)
  refine OwnGoes.step (T' := s₁) (g' := (mkF m 0 #[.val (.ref a1)] [])) (fun tgt kgo => castTop (ef_grow0 m a1) kgo) ?_
  refine OwnGoes.step (T' := s₁) (g' := (mkF m 2 #[.val (.ref a1)] [(.ref a1), (.ref a1)])) (fun tgt kgo => ?_) ?_
  · show Steps p.tables e below (s₁.setTop (mkF m 0 #[.val (.ref a1)] [])) tgt
    refine XS.aloadN X0.here hx rfl (hb hby dd_jdk_38_method_7_0) rfl rfl ?_
    show Steps p.tables e below (s₁.setTop (mkF m 1 #[.val (.ref a1)] [(.ref a1)])) tgt
    refine XS.aloadN X0.here hx rfl (hb hby dd_jdk_38_method_7_1) rfl rfl ?_
    exact kgo
  obtain ⟨T1, X1, e1, st1⟩ := getF X0 hx hZ hown (host := "") (Or.inl (hw _ (List.mem_of_getElem? (i := 65) rfl))) Via.refl e0 f3 (g := (mkF m 2 #[.val (.ref a1)] [(.ref a1), (.ref a1)])) rfl rfl (hb hby dd_jdk_38_method_7_2)
  refine OwnGoes.step (T' := T1) (g' := (mkF m 5 #[.val (.ref a1)] [(.int (0 : Int32)), (.ref a1)])) st1 ?_
  refine OwnGoes.step (T' := T1) (g' := (mkF m 7 #[.val (.ref a1)] [(.int (1 : Int32)), (.ref a1)])) (fun tgt kgo => ?_) ?_
  · show Steps p.tables e below (T1.setTop (mkF m 5 #[.val (.ref a1)] [(.int (0 : Int32)), (.ref a1)])) tgt
    refine XS.iconst X1.here hx rfl (hb hby dd_jdk_38_method_7_5) ?_
    show Steps p.tables e below (T1.setTop (mkF m 6 #[.val (.ref a1)] [(.int (1 : Int32)), (.int (0 : Int32)), (.ref a1)])) tgt
    refine XS.iadd X1.here hx rfl (hb hby dd_jdk_38_method_7_6) rfl ?_
    exact kgo
  obtain ⟨cq2, q2, q2'⟩ := f0.cell
  obtain ⟨_, _, ⟨T2, L2, k2, n2⟩, -, X2, ⟨Lc2, hQ2, l2, y2, z2⟩, st2⟩ := X1.privateBack hx (y := (⟨"java/util/ArrayList", "grow", "(I)[Ljava/lang/Object;"⟩ : MethodName)) hown (mvT hZ (hw _ (List.mem_of_getElem? (i := 77) rfl))) (mvT hZ (hw _ (List.mem_of_getElem? (i := 78) rfl))) (mvT hZ (hw _ (List.mem_of_getElem? (i := 80) rfl))) (Cond.privateMethod_at (mvP hZ (hw _ (List.mem_of_getElem? (i := 79) rfl)) (args := #[]))) (mvT hZ (hw _ (List.mem_of_getElem? (i := 81) rfl))) (by decide) (backOf (W := 0) (rm_grow1 l Z a0 hw [] wG1 wO2 wP5 wG3 wO4 wrG3 hstr wG5 wK5 wO5 wV5 wG6 wO6 wE6 wF6 hEL h0 n0 X00 a1 u1 f0 f1 f2 f3 f4) hZ (hw _ (List.mem_of_getElem? (i := 81) rfl)) (hw _ (List.mem_of_getElem? (i := 32) rfl)) (by decide) (by decide)) (g := (mkF m 7 #[.val (.ref a1)] [(.int (1 : Int32)), (.ref a1)])) rfl (by rw [hml]; rfl) (Steps.refl _) (a := a1) (by rw [e1]; exact q2) q2' (argsL := [(.int (1 : Int32))]) (rest := []) (lenOf pd_18615735 rfl) rfl (by show 2 * 0 + _ ≤ _; exact Nat.le_of_eq rfl) (hb hby dd_jdk_38_method_7_7) (fun _ _ => ⟨rfl, e1, (by decide : 0 + 1 ≤ _), (by decide : 0 + 10 ≤ _)⟩)
  dsimp only [Pt.U, Pt.locs, Pt.cells, Pt.slots] at X2 l2 y2 z2 st2 hQ2
  subst l2 y2 z2
  obtain ⟨b_2, kb_2, rfl, Nq2, Kq2, zq2_0, fq2_0, fq2_1, fq2_2, pq2_0⟩ := hQ2
  refine OwnGoes.tr (T' := T2) (g' := (mkF m 10 #[.val (.ref a1)] [(.ref b_2)])) st2 ?_
  have N2 := Fr.app N0 Nq2
  have ne_a1_b_2 : a1 ≠ b_2 := Nat.ne_of_lt (Nat.lt_of_lt_of_le f0.lt zq2_0)
  have ne_wG5_b_2 : wG5 ≠ b_2 := Nat.ne_of_lt (Nat.lt_of_lt_of_le fg_wG5_0.lt zq2_0)
  have g_b_2 : n0 ≤ b_2 := Nat.le_trans (Nat.le_trans Z0 K0.1) zq2_0
  have s_b_2 : h0.size ≤ b_2 := Nat.le_trans K0.1 zq2_0
  have F2_1 := f0.keep Kq2
  have F2_2 := fg_wG5_0.keep Kq2 (ninS (Ne.symm (Exa.neArv f0 fg_wG5_0 (hw _ (List.mem_of_getElem? (i := 31) rfl)))) nin0)
  have Ol2 := X00.keep Kq2 (allS f4 all0)
  have K2 : Keep h0 T2.heap ([a1] : List Addr) := K0.trans Kq2 (allS (Or.inl (List.mem_of_getElem? (i := 0) rfl)) all0)
  have hret : ∀ fs, (∀ (f : JFrame) (acts : List Action), f.method = m → f.locked = none → f.entered = [] → (doReturn e (T2.setTop f) acts (some (.ref b_2))).1 = T2.setFrames fs) → Steps p.tables e below (T2.setTop (mkF m 10 #[.val (.ref a1)] [(.ref b_2)])) (T2.setFrames fs) := by
    intro fs hr
    jvm_step X2.here [X2.here.top, hx, (hb hby dd_jdk_38_method_7_10), X2.method', Bd.returns, Value.isRef, FieldType.isReference]
    first | (intro acts; rw [hr _ acts rfl rfl rfl]) | rw [hr _ _ rfl rfl rfl]
    exact Steps.refl _
  refine own_leave X2 hlk (v := some (.ref b_2)) (fun h => by rw [Bd.returns] at h; cases h) hret (by decide) (by decide) ?_
  show Q_grow0 Z a1 u1 h0 n0 _ T2.heap _
  exact ⟨b_2, kb_2, rfl, N2, K2, s_b_2, fq2_0, fq2_1, fq2_2, pq2_0⟩
theorem ef_add3 (m : MethodId) (x0 : Addr) (x1 : Addr) (x2 : Addr) : entryFrame m #[(.ref x0), (.ref x1), (.ref x2), (.int (0 : Int32))] 4 = mkF m 0 #[.val (.ref x0), .val (.ref x1), .val (.ref x2), .val (.int (0 : Int32))] [] := by first | (simp [entryFrame, mkF, argsToLocals, Value.category]; done) | rfl
def Q_add3 (Z : State) (a1 : Addr) (x1 : Addr) (u1 : Value) (h0 : Heap) (n0 : Nat) (v : Option Value) (h : Heap) (L : List Loc) : Prop := v = none ∧ Fr n0 L ∧ Keep h0 h ([a1] : List Addr) ∧ Exa Z h a1 "java/util/ArrayList"
theorem dd_jdk_38_method_24_0 : decode jdk_38_method_24_code 0 = .ok (.iload_n 3, 1) := by decide +kernel
theorem dd_jdk_38_method_24_1 : decode jdk_38_method_24_code 1 = .ok (.aload_n 2, 1) := by decide +kernel
theorem dd_jdk_38_method_24_2 : decode jdk_38_method_24_code 2 = .ok (.arraylength, 1) := by decide +kernel
theorem dd_jdk_38_method_24_3 : decode jdk_38_method_24_code 3 = .ok (.if_icmp .ne 8, 3) := by decide +kernel
theorem dd_jdk_38_method_24_6 : decode jdk_38_method_24_code 6 = .ok (.aload_n 0, 1) := by decide +kernel
theorem dd_jdk_38_method_24_7 : decode jdk_38_method_24_code 7 = .ok (.invokevirtual 129, 3) := by decide +kernel
theorem pd_48715688 : parseMethodDescriptor "()[Ljava/lang/Object;" = some ⟨[], some (.array (.object "java/lang/Object"))⟩ := by decide +kernel
theorem dd_jdk_38_method_24_10 : decode jdk_38_method_24_code 10 = .ok (.astore_n 2, 1) := by decide +kernel
theorem dd_jdk_38_method_24_11 : decode jdk_38_method_24_code 11 = .ok (.aload_n 2, 1) := by decide +kernel
theorem dd_jdk_38_method_24_12 : decode jdk_38_method_24_code 12 = .ok (.iload_n 3, 1) := by decide +kernel
theorem dd_jdk_38_method_24_13 : decode jdk_38_method_24_code 13 = .ok (.aload_n 1, 1) := by decide +kernel
theorem dd_jdk_38_method_24_14 : decode jdk_38_method_24_code 14 = .ok (.aastore, 1) := by decide +kernel
theorem dd_jdk_38_method_24_15 : decode jdk_38_method_24_code 15 = .ok (.aload_n 0, 1) := by decide +kernel
theorem dd_jdk_38_method_24_16 : decode jdk_38_method_24_code 16 = .ok (.iload_n 3, 1) := by decide +kernel
theorem dd_jdk_38_method_24_17 : decode jdk_38_method_24_code 17 = .ok (.iconst 1, 1) := by decide +kernel
theorem dd_jdk_38_method_24_18 : decode jdk_38_method_24_code 18 = .ok (.iadd, 1) := by decide +kernel
theorem dd_jdk_38_method_24_19 : decode jdk_38_method_24_code 19 = .ok (.putfield 48, 3) := by decide +kernel
theorem dd_jdk_38_method_24_22 : decode jdk_38_method_24_code 22 = .ok (.return_, 1) := by decide +kernel
set_option maxRecDepth 65536 in
set_option maxHeartbeats 40000000 in
theorem rm_add3 (l : Launch) (Z : State) (a0 : Array Value) (hw : ∀ d ∈ tables_1, d.before a0 Z = true) (ws : List Jvm.Cond) (wG1 : Int32) (wO2 : Sta Z Z.heap "java/lang/String" "COMPACT_STRINGS" "Z" (.int wG1)) (wP5 : ¬ (wG1 = (0 : Int32))) (wG3 : Value) (wO4 : Sta Z Z.heap "jdk/internal/util/Preconditions" "SIOOBE_FORMATTER" "Ljava/util/function/BiFunction;" wG3) (wrG3 : wG3.isRef = true) (hstr : ∀ a ∈ Bundle.stringAtoms, a.before a0 Z = true) (wG5 : Addr) (wK5 : ClassId) (wO5 : Sta Z Z.heap "java/util/ArrayList" "DEFAULTCAPACITY_EMPTY_ELEMENTDATA" "[Ljava/lang/Object;" (.ref wG5)) (wV5 : Arv Z Z.heap wG5 wK5 (.object "java/lang/Object") (0 : Int32) [] .null) (wG6 : Addr) (wO6 : Sta Z Z.heap "java/util/Optional" "EMPTY" "Ljava/util/Optional;" (.ref wG6)) (wE6 : Exa Z Z.heap wG6 "java/util/Optional") (wF6 : Fld Z Z.heap wG6 "java/util/Optional" "value" "Ljava/lang/Object;" .null) (hEL : EW Z a0 consts_1) (h0 : Heap) (n0 : Nat) (X00 : Old Z n0 h0) (a1 : Addr) (x1 : Addr) (u1 : Value) (f0 : Exa Z h0 a1 "java/util/ArrayList") (f1 : Fld Z h0 a1 "java/util/AbstractList" "modCount" "I" u1) (f2 : Fld Z h0 a1 "java/util/ArrayList" "elementData" "[Ljava/lang/Object;" (.ref wG5)) (f3 : Fld Z h0 a1 "java/util/ArrayList" "size" "I" (.int (0 : Int32))) (f4 : n0 ≤ a1) (f5 : Exa Z h0 x1 "java/lang/String") :
    MetFree l (⟨"java/util/ArrayList", "add", "(Ljava/lang/Object;[Ljava/lang/Object;I)V"⟩ : MethodName) (head1 (Jvm.Cond.code (⟨"java/util/ArrayList", "add", "(Ljava/lang/Object;[Ljava/lang/Object;I)V"⟩ : MethodName) jdk_38_method_24_code 4 none :: ws) ({ frames := 3, cells := 1, slots := 10, locals := 41 } : Room)) (fun a U => a = #[(.ref a1), (.ref x1), (.ref wG5), (.int (0 : Int32))] ∧ Z.Warmed39 U.vm ∧ U.heap = h0) (fun _ _ _ _ _ => True) (fun _ U o U' => ∃ v L, o = .returned v ∧ Q_add3 Z a1 x1 u1 h0 n0 v U'.heap L ∧ FrameEnd U o U' L ({ frames := 3, cells := 1, slots := 10, locals := 41 } : Room).cells ({ frames := 3, cells := 1, slots := 10, locals := 41 } : Room).slots) := by
  refine MetFree.of_bodySF (plainFor_of_name pn_13458729) hisR ?_
  intro p e s m args below meth c s₁ Bd hml0 hP hK
  obtain ⟨rfl, hZ, hh⟩ := hP
  have hx := Bd.exec
  have hby := Bd.bytes
  have hlk := Bd.notSynchronized
  have hml : c.maxLocals = 4 := hml0
  have hown : s.vm.findClass "java/util/ArrayList" = some m.cls := findClass_of_methodNamed Bd.named
  have hnm := (name_of_methodNamed Bd.named Bd.method).1
  have X0 : Stand p l e ({ frames := 3, cells := 1, slots := 10, locals := 41 } : Room) s m #[(.ref a1), (.ref x1), (.ref wG5), (.int (0 : Int32))] below meth c s₁ [] 0 0 := Stand.of_body Bd
  have e0 : s₁.heap = h0 := by rw [← hh, Bd.state]; rfl
  have N0 := Fr.nil n0
  have Z0 : n0 ≤ h0.size := X00.1 ▸ X00.2.1
  have K0 : Keep h0 h0 ([a1] : List Addr) := Keep.refl _ _
  have fg_wG5_0 := wV5.ext X00.2
  have lt_wG5 : wG5 < n0 := X00.1 ▸ wV5.lt
  show OwnGoes p e below (fun o U' => ∃ v L, o = .returned v ∧ Q_add3 Z a1 x1 u1 h0 n0 v U'.heap L ∧ FrameEnd s o U' L ({ frames := 3, cells := 1, slots := 10, locals := 41 } : Room).cells ({ frames := 3, cells := 1, slots := 10, locals := 41 } : Room).slots) s₁ (entryFrame m #[(.ref a1), (.ref x1), (.ref wG5), (.int (0 : Int32))] 4)
  refine OwnGoes.step (T' := s₁) (g' := (mkF m 0 #[.val (.ref a1), .val (.ref x1), .val (.ref wG5), .val (.int (0 : Int32))] [])) (fun tgt kgo => castTop (ef_add3 m a1 x1 wG5) kgo) ?_
  refine OwnGoes.step (T' := s₁) (g' := (mkF m 7 #[.val (.ref a1), .val (.ref x1), .val (.ref wG5), .val (.int (0 : Int32))] [(.ref a1)])) (fun tgt kgo => ?_) ?_
  · show Steps p.tables e below (s₁.setTop (mkF m 0 #[.val (.ref a1), .val (.ref x1), .val (.ref wG5), .val (.int (0 : Int32))] [])) tgt
    refine XS.iloadN X0.here hx rfl (hb hby dd_jdk_38_method_24_0) rfl ?_
    show Steps p.tables e below (s₁.setTop (mkF m 1 #[.val (.ref a1), .val (.ref x1), .val (.ref wG5), .val (.int (0 : Int32))] [(.int (0 : Int32))])) tgt
    refine XS.aloadN X0.here hx rfl (hb hby dd_jdk_38_method_24_1) rfl rfl ?_
    show Steps p.tables e below (s₁.setTop (mkF m 2 #[.val (.ref a1), .val (.ref x1), .val (.ref wG5), .val (.int (0 : Int32))] [(.ref wG5), (.int (0 : Int32))])) tgt
    obtain ⟨cl1, Ar1, q1, S1, M1, -, -⟩ := fg_wG5_0
    refine X0.arraylength hx (by rw [e0]; exact Ar1.1) (State.isArrayOf_alike hZ.alike Ar1.2.1) (g := (mkF m 2 #[.val (.ref a1), .val (.ref x1), .val (.ref wG5), .val (.int (0 : Int32))] [(.ref wG5), (.int (0 : Int32))])) rfl rfl (hb hby dd_jdk_38_method_24_2) _ ?_
    rw [len_of S1 M1]
    show Steps p.tables e below (s₁.setTop (mkF m 3 #[.val (.ref a1), .val (.ref x1), .val (.ref wG5), .val (.int (0 : Int32))] [(.int (0 : Int32)), (.int (0 : Int32))])) tgt
    refine XS.icmpNo X0.here hx rfl (hb hby dd_jdk_38_method_24_3) rfl (teq (by decide : (0 : Int32) = (0 : Int32))).2 ?_
    show Steps p.tables e below (s₁.setTop (mkF m 6 #[.val (.ref a1), .val (.ref x1), .val (.ref wG5), .val (.int (0 : Int32))] [])) tgt
    refine XS.aloadN X0.here hx rfl (hb hby dd_jdk_38_method_24_6) rfl rfl ?_
    exact kgo
  obtain ⟨cq2, q2, q2'⟩ := f0.cell
  obtain ⟨_, _, ⟨T2, L2, k2, n2⟩, -, X2, ⟨Lc2, hQ2, l2, y2, z2⟩, st2⟩ := X0.privateBack hx (y := (⟨"java/util/ArrayList", "grow", "()[Ljava/lang/Object;"⟩ : MethodName)) hown (mvT hZ (hw _ (List.mem_of_getElem? (i := 72) rfl))) (mvT hZ (hw _ (List.mem_of_getElem? (i := 73) rfl))) (mvT hZ (hw _ (List.mem_of_getElem? (i := 75) rfl))) (Cond.privateMethod_at (mvP hZ (hw _ (List.mem_of_getElem? (i := 74) rfl)) (args := #[]))) (mvT hZ (hw _ (List.mem_of_getElem? (i := 76) rfl))) (by decide) (backOf (W := 0) (rm_grow0 l Z a0 hw [] wG1 wO2 wP5 wG3 wO4 wrG3 hstr wG5 wK5 wO5 wV5 wG6 wO6 wE6 wF6 hEL h0 n0 X00 a1 u1 f0 f1 f2 f3 f4) hZ (hw _ (List.mem_of_getElem? (i := 76) rfl)) (hw _ (List.mem_of_getElem? (i := 32) rfl)) (by decide) (by decide)) (g := (mkF m 7 #[.val (.ref a1), .val (.ref x1), .val (.ref wG5), .val (.int (0 : Int32))] [(.ref a1)])) rfl (by rw [hml]; rfl) (Steps.refl _) (a := a1) (by rw [e0]; exact q2) q2' (argsL := []) (rest := []) (lenOf pd_48715688 rfl) rfl (by show 2 * 0 + _ ≤ _; exact Nat.le_of_eq rfl) (hb hby dd_jdk_38_method_24_7) (fun _ _ => ⟨rfl, e0, (by decide : 0 + 1 ≤ _), (by decide : 0 + 10 ≤ _)⟩)
  dsimp only [Pt.U, Pt.locs, Pt.cells, Pt.slots] at X2 l2 y2 z2 st2 hQ2
  subst l2 y2 z2
  obtain ⟨b_2, kb_2, rfl, Nq2, Kq2, zq2_0, fq2_0, fq2_1, fq2_2, pq2_0⟩ := hQ2
  refine OwnGoes.tr (T' := T2) (g' := (mkF m 10 #[.val (.ref a1), .val (.ref x1), .val (.ref wG5), .val (.int (0 : Int32))] [(.ref b_2)])) st2 ?_
  have N2 := Fr.app N0 Nq2
  have ne_a1_b_2 : a1 ≠ b_2 := Nat.ne_of_lt (Nat.lt_of_lt_of_le f0.lt zq2_0)
  have ne_x1_b_2 : x1 ≠ b_2 := Nat.ne_of_lt (Nat.lt_of_lt_of_le f5.lt zq2_0)
  have ne_wG5_b_2 : wG5 ≠ b_2 := Nat.ne_of_lt (Nat.lt_of_lt_of_le fg_wG5_0.lt zq2_0)
  have g_b_2 : n0 ≤ b_2 := Nat.le_trans (Nat.le_trans Z0 K0.1) zq2_0
  have s_b_2 : h0.size ≤ b_2 := Nat.le_trans K0.1 zq2_0
  have F2_1 := f0.keep Kq2
  have F2_2 := f5.keep Kq2
  have F2_3 := fg_wG5_0.keep Kq2 (ninS (Ne.symm (Exa.neArv f0 fg_wG5_0 (hw _ (List.mem_of_getElem? (i := 31) rfl)))) nin0)
  have Ol2 := X00.keep Kq2 (allS f4 all0)
  have K2 : Keep h0 T2.heap ([a1] : List Addr) := K0.trans Kq2 (allS (Or.inl (List.mem_of_getElem? (i := 0) rfl)) all0)
  refine OwnGoes.step (T' := T2) (g' := (mkF m 14 #[.val (.ref a1), .val (.ref x1), .val (.ref b_2), .val (.int (0 : Int32))] [(.ref x1), (.int (0 : Int32)), (.ref b_2)])) (fun tgt kgo => ?_) ?_
  · show Steps p.tables e below (T2.setTop (mkF m 10 #[.val (.ref a1), .val (.ref x1), .val (.ref wG5), .val (.int (0 : Int32))] [(.ref b_2)])) tgt
    refine XS.astoreN X2.here hx rfl (hb hby dd_jdk_38_method_24_10) rfl rfl (l' := #[.val (.ref a1), .val (.ref x1), .val (.ref b_2), .val (.int (0 : Int32))]) rfl ?_
    show Steps p.tables e below (T2.setTop (mkF m 11 #[.val (.ref a1), .val (.ref x1), .val (.ref b_2), .val (.int (0 : Int32))] [])) tgt
    refine XS.aloadN X2.here hx rfl (hb hby dd_jdk_38_method_24_11) rfl rfl ?_
    show Steps p.tables e below (T2.setTop (mkF m 12 #[.val (.ref a1), .val (.ref x1), .val (.ref b_2), .val (.int (0 : Int32))] [(.ref b_2)])) tgt
    refine XS.iloadN X2.here hx rfl (hb hby dd_jdk_38_method_24_12) rfl ?_
    show Steps p.tables e below (T2.setTop (mkF m 13 #[.val (.ref a1), .val (.ref x1), .val (.ref b_2), .val (.int (0 : Int32))] [(.int (0 : Int32)), (.ref b_2)])) tgt
    refine XS.aloadN X2.here hx rfl (hb hby dd_jdk_38_method_24_13) rfl rfl ?_
    exact kgo
  obtain ⟨cl3, Ar3, q3, S3, M3, H3, G3⟩ := id fq2_2
  obtain ⟨T3, h3, X3, e3, W3, st3⟩ := stR X2 hx hZ rfl Ar3 (j := (0 : Int32)) (inb_of S3 ⟨by decide, by decide⟩) rfl (Sto.ofV Ar3 q3 pq2_0 (Ins.of_exa F2_2 (hw _ (List.mem_of_getElem? (i := 88) rfl)))) (g := (mkF m 14 #[.val (.ref a1), .val (.ref x1), .val (.ref b_2), .val (.int (0 : Int32))] [(.ref x1), (.int (0 : Int32)), (.ref b_2)])) rfl rfl (hb hby dd_jdk_38_method_24_14)
  refine OwnGoes.step (T' := T3) (g' := (mkF m 15 #[.val (.ref a1), .val (.ref x1), .val (.ref b_2), .val (.int (0 : Int32))] [])) st3 ?_
  have V3 : Arv Z h3 b_2 kb_2 (.object "java/lang/Object") (10 : Int32) [(.ref x1), .null, .null, .null, .null, .null, .null, .null, .null, .null] .null := Arv.set Ar3 q3 S3 M3 H3 G3 rfl W3 0 rfl (Nat.le_of_ble_eq_true rfl)
  have F3_4 := fq2_0.wr W3
  have F3_5 := F2_2.wr W3
  have F3_6 := F2_3.other W3 ne_wG5_b_2
  have F3_7 := fq2_1.other W3 (Or.inl ne_a1_b_2)
  have Ol3 := Ol2.wr W3 g_b_2
  have K3 : Keep h0 h3 ([a1] : List Addr) := K2.wr W3 (Or.inr s_b_2)
  have N3 := Fr.snoc X3 N2 g_b_2
  refine OwnGoes.step (T' := T3) (g' := (mkF m 19 #[.val (.ref a1), .val (.ref x1), .val (.ref b_2), .val (.int (0 : Int32))] [(.int (1 : Int32)), (.ref a1)])) (fun tgt kgo => ?_) ?_
  · show Steps p.tables e below (T3.setTop (mkF m 15 #[.val (.ref a1), .val (.ref x1), .val (.ref b_2), .val (.int (0 : Int32))] [])) tgt
    refine XS.aloadN X3.here hx rfl (hb hby dd_jdk_38_method_24_15) rfl rfl ?_
    show Steps p.tables e below (T3.setTop (mkF m 16 #[.val (.ref a1), .val (.ref x1), .val (.ref b_2), .val (.int (0 : Int32))] [(.ref a1)])) tgt
    refine XS.iloadN X3.here hx rfl (hb hby dd_jdk_38_method_24_16) rfl ?_
    show Steps p.tables e below (T3.setTop (mkF m 17 #[.val (.ref a1), .val (.ref x1), .val (.ref b_2), .val (.int (0 : Int32))] [(.int (0 : Int32)), (.ref a1)])) tgt
    refine XS.iconst X3.here hx rfl (hb hby dd_jdk_38_method_24_17) ?_
    show Steps p.tables e below (T3.setTop (mkF m 18 #[.val (.ref a1), .val (.ref x1), .val (.ref b_2), .val (.int (0 : Int32))] [(.int (1 : Int32)), (.int (0 : Int32)), (.ref a1)])) tgt
    refine XS.iadd X3.here hx rfl (hb hby dd_jdk_38_method_24_18) rfl ?_
    exact kgo
  obtain ⟨T4, h4, X4, e4, W4, st4⟩ := putF X3 hx hZ hown (host := "") (Or.inl (hw _ (List.mem_of_getElem? (i := 65) rfl))) Via.refl e3 F3_7 F3_4 (Or.inl (hw _ (List.mem_of_getElem? (i := 66) rfl))) (hw _ (List.mem_of_getElem? (i := 31) rfl)) (ty := .int) (by decide) rfl rfl (g := (mkF m 19 #[.val (.ref a1), .val (.ref x1), .val (.ref b_2), .val (.int (0 : Int32))] [(.int (1 : Int32)), (.ref a1)])) rfl rfl (hb hby dd_jdk_38_method_24_19)
  refine OwnGoes.step (T' := T4) (g' := (mkF m 22 #[.val (.ref a1), .val (.ref x1), .val (.ref b_2), .val (.int (0 : Int32))] [])) st4 ?_
  have Fw4 := F3_7.same W4
  have F4_8 := F3_4.wr W4
  have F4_9 := F3_5.wr W4
  have F4_10 := F3_6.other W4 (Ne.symm (Exa.neArv F3_4 F3_6 (hw _ (List.mem_of_getElem? (i := 31) rfl))))
  have F4_11 := V3.other W4 (Ne.symm ne_a1_b_2)
  have Ol4 := Ol3.wr W4 f4
  have K4 : Keep h0 h4 ([a1] : List Addr) := K3.wr W4 (Or.inl (List.mem_of_getElem? (i := 0) rfl))
  have N4 := Fr.snoc X4 N3 f4
  refine own_leave X4 hlk (v := none) (fun _ => rfl) (fun fs hr => X4.returnOut hx Bd.returns (hb hby dd_jdk_38_method_24_22) hr) (by decide) (by decide) ?_
  show Q_add3 Z a1 x1 u1 h0 n0 _ T4.heap _
  rw [e4]
  exact ⟨rfl, N4, K4, F4_8⟩
theorem ef_add1 (m : MethodId) (x0 : Addr) (x1 : Addr) : entryFrame m #[(.ref x0), (.ref x1)] 2 = mkF m 0 #[.val (.ref x0), .val (.ref x1)] [] := by first | (simp [entryFrame, mkF, argsToLocals, Value.category]; done) | rfl
def Q_add1 (Z : State) (a1 : Addr) (x1 : Addr) (h0 : Heap) (n0 : Nat) (v : Option Value) (h : Heap) (L : List Loc) : Prop := v = some (.int (1 : Int32)) ∧ Fr n0 L ∧ Keep h0 h ([a1] : List Addr) ∧ Exa Z h a1 "java/util/ArrayList"
theorem dd_jdk_38_method_25_0 : decode jdk_38_method_25_code 0 = .ok (.aload_n 0, 1) := by decide +kernel
theorem dd_jdk_38_method_25_1 : decode jdk_38_method_25_code 1 = .ok (.dup, 1) := by decide +kernel
theorem dd_jdk_38_method_25_2 : decode jdk_38_method_25_code 2 = .ok (.getfield 63, 3) := by decide +kernel
theorem dd_jdk_38_method_25_5 : decode jdk_38_method_25_code 5 = .ok (.iconst 1, 1) := by decide +kernel
theorem dd_jdk_38_method_25_6 : decode jdk_38_method_25_code 6 = .ok (.iadd, 1) := by decide +kernel
theorem dd_jdk_38_method_25_7 : decode jdk_38_method_25_code 7 = .ok (.putfield 63, 3) := by decide +kernel
theorem dd_jdk_38_method_25_10 : decode jdk_38_method_25_code 10 = .ok (.aload_n 0, 1) := by decide +kernel
theorem dd_jdk_38_method_25_11 : decode jdk_38_method_25_code 11 = .ok (.aload_n 1, 1) := by decide +kernel
theorem dd_jdk_38_method_25_12 : decode jdk_38_method_25_code 12 = .ok (.aload_n 0, 1) := by decide +kernel
theorem dd_jdk_38_method_25_13 : decode jdk_38_method_25_code 13 = .ok (.getfield 9, 3) := by decide +kernel
theorem dd_jdk_38_method_25_16 : decode jdk_38_method_25_code 16 = .ok (.aload_n 0, 1) := by decide +kernel
theorem dd_jdk_38_method_25_17 : decode jdk_38_method_25_code 17 = .ok (.getfield 48, 3) := by decide +kernel
theorem dd_jdk_38_method_25_20 : decode jdk_38_method_25_code 20 = .ok (.invokevirtual 131, 3) := by decide +kernel
theorem pd_92935056 : parseMethodDescriptor "(Ljava/lang/Object;[Ljava/lang/Object;I)V" = some ⟨[(.object "java/lang/Object"), (.array (.object "java/lang/Object")), .int], none⟩ := by decide +kernel
theorem dd_jdk_38_method_25_23 : decode jdk_38_method_25_code 23 = .ok (.iconst 1, 1) := by decide +kernel
theorem dd_jdk_38_method_25_24 : decode jdk_38_method_25_code 24 = .ok (.ireturn, 1) := by decide +kernel
set_option maxRecDepth 65536 in
set_option maxHeartbeats 40000000 in
theorem rm_add1 (l : Launch) (Z : State) (a0 : Array Value) (hw : ∀ d ∈ tables_1, d.before a0 Z = true) (ws : List Jvm.Cond) (wG1 : Int32) (wO2 : Sta Z Z.heap "java/lang/String" "COMPACT_STRINGS" "Z" (.int wG1)) (wP5 : ¬ (wG1 = (0 : Int32))) (wG3 : Value) (wO4 : Sta Z Z.heap "jdk/internal/util/Preconditions" "SIOOBE_FORMATTER" "Ljava/util/function/BiFunction;" wG3) (wrG3 : wG3.isRef = true) (hstr : ∀ a ∈ Bundle.stringAtoms, a.before a0 Z = true) (wG5 : Addr) (wK5 : ClassId) (wO5 : Sta Z Z.heap "java/util/ArrayList" "DEFAULTCAPACITY_EMPTY_ELEMENTDATA" "[Ljava/lang/Object;" (.ref wG5)) (wV5 : Arv Z Z.heap wG5 wK5 (.object "java/lang/Object") (0 : Int32) [] .null) (wG6 : Addr) (wO6 : Sta Z Z.heap "java/util/Optional" "EMPTY" "Ljava/util/Optional;" (.ref wG6)) (wE6 : Exa Z Z.heap wG6 "java/util/Optional") (wF6 : Fld Z Z.heap wG6 "java/util/Optional" "value" "Ljava/lang/Object;" .null) (hEL : EW Z a0 consts_1) (h0 : Heap) (n0 : Nat) (X00 : Old Z n0 h0) (a1 : Addr) (x1 : Addr) (f0 : Exa Z h0 a1 "java/util/ArrayList") (f1 : Fld Z h0 a1 "java/util/AbstractList" "modCount" "I" (.int (0 : Int32))) (f2 : Fld Z h0 a1 "java/util/ArrayList" "elementData" "[Ljava/lang/Object;" (.ref wG5)) (f3 : Fld Z h0 a1 "java/util/ArrayList" "size" "I" (.int (0 : Int32))) (f4 : n0 ≤ a1) (f5 : Exa Z h0 x1 "java/lang/String") :
    MetFree l (⟨"java/util/ArrayList", "add", "(Ljava/lang/Object;)Z"⟩ : MethodName) (head1 (Jvm.Cond.code (⟨"java/util/ArrayList", "add", "(Ljava/lang/Object;)Z"⟩ : MethodName) jdk_38_method_25_code 2 (some .boolean) :: ws) ({ frames := 4, cells := 1, slots := 10, locals := 56 } : Room)) (fun a U => a = #[(.ref a1), (.ref x1)] ∧ Z.Warmed39 U.vm ∧ U.heap = h0) (fun _ _ _ _ _ => True) (fun _ U o U' => ∃ v L, o = .returned v ∧ Q_add1 Z a1 x1 h0 n0 v U'.heap L ∧ FrameEnd U o U' L ({ frames := 4, cells := 1, slots := 10, locals := 56 } : Room).cells ({ frames := 4, cells := 1, slots := 10, locals := 56 } : Room).slots) := by
  refine MetFree.of_bodySF (plainFor_of_name pn_13458729) hisR ?_
  intro p e s m args below meth c s₁ Bd hml0 hP hK
  obtain ⟨rfl, hZ, hh⟩ := hP
  have hx := Bd.exec
  have hby := Bd.bytes
  have hlk := Bd.notSynchronized
  have hml : c.maxLocals = 2 := hml0
  have hown : s.vm.findClass "java/util/ArrayList" = some m.cls := findClass_of_methodNamed Bd.named
  have hnm := (name_of_methodNamed Bd.named Bd.method).1
  have X0 : Stand p l e ({ frames := 4, cells := 1, slots := 10, locals := 56 } : Room) s m #[(.ref a1), (.ref x1)] below meth c s₁ [] 0 0 := Stand.of_body Bd
  have e0 : s₁.heap = h0 := by rw [← hh, Bd.state]; rfl
  have N0 := Fr.nil n0
  have Z0 : n0 ≤ h0.size := X00.1 ▸ X00.2.1
  have K0 : Keep h0 h0 ([a1] : List Addr) := Keep.refl _ _
  have fg_wG5_0 := wV5.ext X00.2
  have lt_wG5 : wG5 < n0 := X00.1 ▸ wV5.lt
  show OwnGoes p e below (fun o U' => ∃ v L, o = .returned v ∧ Q_add1 Z a1 x1 h0 n0 v U'.heap L ∧ FrameEnd s o U' L ({ frames := 4, cells := 1, slots := 10, locals := 56 } : Room).cells ({ frames := 4, cells := 1, slots := 10, locals := 56 } : Room).slots) s₁ (entryFrame m #[(.ref a1), (.ref x1)] 2)
  refine OwnGoes.step (T' := s₁) (g' := (mkF m 0 #[.val (.ref a1), .val (.ref x1)] [])) (fun tgt kgo => castTop (ef_add1 m a1 x1) kgo) ?_
  refine OwnGoes.step (T' := s₁) (g' := (mkF m 2 #[.val (.ref a1), .val (.ref x1)] [(.ref a1), (.ref a1)])) (fun tgt kgo => ?_) ?_
  · show Steps p.tables e below (s₁.setTop (mkF m 0 #[.val (.ref a1), .val (.ref x1)] [])) tgt
    refine XS.aloadN X0.here hx rfl (hb hby dd_jdk_38_method_25_0) rfl rfl ?_
    show Steps p.tables e below (s₁.setTop (mkF m 1 #[.val (.ref a1), .val (.ref x1)] [(.ref a1)])) tgt
    refine XS.dup X0.here hx rfl (hb hby dd_jdk_38_method_25_1) rfl rfl ?_
    exact kgo
  obtain ⟨T1, X1, e1, st1⟩ := getF X0 hx hZ hown (host := "") (Or.inl (hw _ (List.mem_of_getElem? (i := 63) rfl))) (Via.of (hw _ (List.mem_of_getElem? (i := 64) rfl))) e0 f1 (g := (mkF m 2 #[.val (.ref a1), .val (.ref x1)] [(.ref a1), (.ref a1)])) rfl rfl (hb hby dd_jdk_38_method_25_2)
  refine OwnGoes.step (T' := T1) (g' := (mkF m 5 #[.val (.ref a1), .val (.ref x1)] [(.int (0 : Int32)), (.ref a1)])) st1 ?_
  refine OwnGoes.step (T' := T1) (g' := (mkF m 7 #[.val (.ref a1), .val (.ref x1)] [(.int (1 : Int32)), (.ref a1)])) (fun tgt kgo => ?_) ?_
  · show Steps p.tables e below (T1.setTop (mkF m 5 #[.val (.ref a1), .val (.ref x1)] [(.int (0 : Int32)), (.ref a1)])) tgt
    refine XS.iconst X1.here hx rfl (hb hby dd_jdk_38_method_25_5) ?_
    show Steps p.tables e below (T1.setTop (mkF m 6 #[.val (.ref a1), .val (.ref x1)] [(.int (1 : Int32)), (.int (0 : Int32)), (.ref a1)])) tgt
    refine XS.iadd X1.here hx rfl (hb hby dd_jdk_38_method_25_6) rfl ?_
    exact kgo
  obtain ⟨T2, h2, X2, e2, W2, st2⟩ := putF X1 hx hZ hown (host := "") (Or.inl (hw _ (List.mem_of_getElem? (i := 63) rfl))) (Via.of (hw _ (List.mem_of_getElem? (i := 64) rfl))) e1 f1 f0 (Or.inl (hw _ (List.mem_of_getElem? (i := 50) rfl))) (hw _ (List.mem_of_getElem? (i := 31) rfl)) (ty := .int) (by decide) rfl rfl (g := (mkF m 7 #[.val (.ref a1), .val (.ref x1)] [(.int (1 : Int32)), (.ref a1)])) rfl rfl (hb hby dd_jdk_38_method_25_7)
  refine OwnGoes.step (T' := T2) (g' := (mkF m 10 #[.val (.ref a1), .val (.ref x1)] [])) st2 ?_
  have Fw2 := f1.same W2
  have F2_1 := f0.wr W2
  have F2_2 := f2.other W2 (Or.inr (slot_ne (Or.inl (hw _ (List.mem_of_getElem? (i := 53) rfl))) (Or.inl (hw _ (List.mem_of_getElem? (i := 50) rfl))) (by decide) (t := (.array (.object "java/lang/Object"))) (t' := .int) (by decide) (by decide)))
  have F2_3 := f3.other W2 (Or.inr (slot_ne (Or.inl (hw _ (List.mem_of_getElem? (i := 66) rfl))) (Or.inl (hw _ (List.mem_of_getElem? (i := 50) rfl))) (by decide) (t := .int) (t' := .int) (by decide) (by decide)))
  have F2_4 := f5.wr W2
  have F2_5 := fg_wG5_0.other W2 (Ne.symm (Exa.neArv f0 fg_wG5_0 (hw _ (List.mem_of_getElem? (i := 31) rfl))))
  have Ol2 := X00.wr W2 f4
  have K2 : Keep h0 h2 ([a1] : List Addr) := K0.wr W2 (Or.inl (List.mem_of_getElem? (i := 0) rfl))
  have N2 := Fr.snoc X2 N0 f4
  refine OwnGoes.step (T' := T2) (g' := (mkF m 13 #[.val (.ref a1), .val (.ref x1)] [(.ref a1), (.ref x1), (.ref a1)])) (fun tgt kgo => ?_) ?_
  · show Steps p.tables e below (T2.setTop (mkF m 10 #[.val (.ref a1), .val (.ref x1)] [])) tgt
    refine XS.aloadN X2.here hx rfl (hb hby dd_jdk_38_method_25_10) rfl rfl ?_
    show Steps p.tables e below (T2.setTop (mkF m 11 #[.val (.ref a1), .val (.ref x1)] [(.ref a1)])) tgt
    refine XS.aloadN X2.here hx rfl (hb hby dd_jdk_38_method_25_11) rfl rfl ?_
    show Steps p.tables e below (T2.setTop (mkF m 12 #[.val (.ref a1), .val (.ref x1)] [(.ref x1), (.ref a1)])) tgt
    refine XS.aloadN X2.here hx rfl (hb hby dd_jdk_38_method_25_12) rfl rfl ?_
    exact kgo
  obtain ⟨T3, X3, e3, st3⟩ := getF X2 hx hZ hown (host := "") (Or.inl (hw _ (List.mem_of_getElem? (i := 52) rfl))) Via.refl e2 F2_2 (g := (mkF m 13 #[.val (.ref a1), .val (.ref x1)] [(.ref a1), (.ref x1), (.ref a1)])) rfl rfl (hb hby dd_jdk_38_method_25_13)
  refine OwnGoes.step (T' := T3) (g' := (mkF m 16 #[.val (.ref a1), .val (.ref x1)] [(.ref wG5), (.ref x1), (.ref a1)])) st3 ?_
  refine OwnGoes.step (T' := T3) (g' := (mkF m 17 #[.val (.ref a1), .val (.ref x1)] [(.ref a1), (.ref wG5), (.ref x1), (.ref a1)])) (fun tgt kgo => ?_) ?_
  · show Steps p.tables e below (T3.setTop (mkF m 16 #[.val (.ref a1), .val (.ref x1)] [(.ref wG5), (.ref x1), (.ref a1)])) tgt
    refine XS.aloadN X3.here hx rfl (hb hby dd_jdk_38_method_25_16) rfl rfl ?_
    exact kgo
  obtain ⟨T4, X4, e4, st4⟩ := getF X3 hx hZ hown (host := "") (Or.inl (hw _ (List.mem_of_getElem? (i := 65) rfl))) Via.refl e3 F2_3 (g := (mkF m 17 #[.val (.ref a1), .val (.ref x1)] [(.ref a1), (.ref wG5), (.ref x1), (.ref a1)])) rfl rfl (hb hby dd_jdk_38_method_25_17)
  refine OwnGoes.step (T' := T4) (g' := (mkF m 20 #[.val (.ref a1), .val (.ref x1)] [(.int (0 : Int32)), (.ref wG5), (.ref x1), (.ref a1)])) st4 ?_
  obtain ⟨cq5, q5, q5'⟩ := F2_1.cell
  obtain ⟨_, _, ⟨T5, L5, k5, n5⟩, -, X5, ⟨Lc5, hQ5, l5, y5, z5⟩, st5⟩ := X4.privateBack hx (y := (⟨"java/util/ArrayList", "add", "(Ljava/lang/Object;[Ljava/lang/Object;I)V"⟩ : MethodName)) hown (mvT hZ (hw _ (List.mem_of_getElem? (i := 67) rfl))) (mvT hZ (hw _ (List.mem_of_getElem? (i := 68) rfl))) (mvT hZ (hw _ (List.mem_of_getElem? (i := 70) rfl))) (Cond.privateMethod_at (mvP hZ (hw _ (List.mem_of_getElem? (i := 69) rfl)) (args := #[]))) (mvT hZ (hw _ (List.mem_of_getElem? (i := 71) rfl))) (by decide) (backOf (W := 0) (rm_add3 l Z a0 hw [] wG1 wO2 wP5 wG3 wO4 wrG3 hstr wG5 wK5 wO5 wV5 wG6 wO6 wE6 wF6 hEL h2 n0 Ol2 a1 x1 (.int (1 : Int32)) F2_1 Fw2 F2_2 F2_3 f4 F2_4) hZ (hw _ (List.mem_of_getElem? (i := 71) rfl)) (hw _ (List.mem_of_getElem? (i := 32) rfl)) (by decide) (by decide)) (g := (mkF m 20 #[.val (.ref a1), .val (.ref x1)] [(.int (0 : Int32)), (.ref wG5), (.ref x1), (.ref a1)])) rfl (by rw [hml]; rfl) (Steps.refl _) (a := a1) (by rw [e4]; exact q5) q5' (argsL := [(.ref x1), (.ref wG5), (.int (0 : Int32))]) (rest := []) (lenOf pd_92935056 rfl) rfl (by show 2 * 0 + _ ≤ _; exact Nat.le_of_eq rfl) (hb hby dd_jdk_38_method_25_20) (fun _ _ => ⟨rfl, e4, (by decide : 0 + 1 ≤ _), (by decide : 0 + 10 ≤ _)⟩)
  dsimp only [Pt.U, Pt.locs, Pt.cells, Pt.slots] at X5 l5 y5 z5 st5 hQ5
  subst l5 y5 z5
  obtain ⟨rfl, Nq5, Kq5, fq5_0⟩ := hQ5
  refine OwnGoes.tr (T' := T5) (g' := (mkF m 23 #[.val (.ref a1), .val (.ref x1)] [])) st5 ?_
  have N5 := Fr.app N2 Nq5
  have F5_6 := F2_1.keep Kq5
  have F5_7 := F2_4.keep Kq5
  have F5_8 := F2_5.keep Kq5 (ninS (Ne.symm (Exa.neArv F2_1 F2_5 (hw _ (List.mem_of_getElem? (i := 31) rfl)))) nin0)
  have Ol5 := Ol2.keep Kq5 (allS f4 all0)
  have K5 : Keep h0 T5.heap ([a1] : List Addr) := K2.trans Kq5 (allS (Or.inl (List.mem_of_getElem? (i := 0) rfl)) all0)
  refine OwnGoes.step (T' := T5) (g' := (mkF m 24 #[.val (.ref a1), .val (.ref x1)] [(.int (1 : Int32))])) (fun tgt kgo => ?_) ?_
  · show Steps p.tables e below (T5.setTop (mkF m 23 #[.val (.ref a1), .val (.ref x1)] [])) tgt
    refine XS.iconst X5.here hx rfl (hb hby dd_jdk_38_method_25_23) ?_
    exact kgo
  refine own_leave X5 hlk (v := some (.int (1 : Int32))) (fun h => by rw [Bd.returns] at h; cases h) (fun fs hr => retN X5 hx (t := .boolean) Bd.returns (by simp) (hb hby dd_jdk_38_method_25_24) (by rw [(by decide : nar .boolean (1 : Int32) = (1 : Int32))]; exact hr)) (by decide) (by decide) ?_
  show Q_add1 Z a1 x1 h0 n0 _ T5.heap _
  exact ⟨rfl, N5, K5, fq5_0⟩
theorem ef_rnn (m : MethodId) (x0 : Addr) : entryFrame m #[(.ref x0)] 1 = mkF m 0 #[.val (.ref x0)] [] := by first | (simp [entryFrame, mkF, argsToLocals, Value.category]; done) | rfl
def Q_rnn (Z : State) (a1 : Addr) (h0 : Heap) (n0 : Nat) (v : Option Value) (h : Heap) (L : List Loc) : Prop := v = some (.ref a1) ∧ Fr n0 L ∧ h = h0
theorem pn_59230025 : plainName "java/util/Objects" = true := by first | (simp [plainName, overriddenIn]; done) | decide +kernel
theorem dd_jdk_31_method_10_0 : decode jdk_31_method_10_code 0 = .ok (.aload_n 0, 1) := by decide +kernel
theorem dd_jdk_31_method_10_1 : decode jdk_31_method_10_code 1 = .ok (.ifnonnull 11, 3) := by decide +kernel
theorem dd_jdk_31_method_10_12 : decode jdk_31_method_10_code 12 = .ok (.aload_n 0, 1) := by decide +kernel
theorem dd_jdk_31_method_10_13 : decode jdk_31_method_10_code 13 = .ok (.areturn, 1) := by decide +kernel
set_option maxRecDepth 65536 in
set_option maxHeartbeats 40000000 in
theorem rm_rnn (l : Launch) (Z : State) (a0 : Array Value) (hw : ∀ d ∈ tables_1, d.before a0 Z = true) (ws : List Jvm.Cond) (wG1 : Int32) (wO2 : Sta Z Z.heap "java/lang/String" "COMPACT_STRINGS" "Z" (.int wG1)) (wP5 : ¬ (wG1 = (0 : Int32))) (wG3 : Value) (wO4 : Sta Z Z.heap "jdk/internal/util/Preconditions" "SIOOBE_FORMATTER" "Ljava/util/function/BiFunction;" wG3) (wrG3 : wG3.isRef = true) (hstr : ∀ a ∈ Bundle.stringAtoms, a.before a0 Z = true) (wG5 : Addr) (wK5 : ClassId) (wO5 : Sta Z Z.heap "java/util/ArrayList" "DEFAULTCAPACITY_EMPTY_ELEMENTDATA" "[Ljava/lang/Object;" (.ref wG5)) (wV5 : Arv Z Z.heap wG5 wK5 (.object "java/lang/Object") (0 : Int32) [] .null) (wG6 : Addr) (wO6 : Sta Z Z.heap "java/util/Optional" "EMPTY" "Ljava/util/Optional;" (.ref wG6)) (wE6 : Exa Z Z.heap wG6 "java/util/Optional") (wF6 : Fld Z Z.heap wG6 "java/util/Optional" "value" "Ljava/lang/Object;" .null) (hEL : EW Z a0 consts_1) (h0 : Heap) (n0 : Nat) (X00 : Old Z n0 h0) (a1 : Addr) :
    MetFree l (⟨"java/util/Objects", "requireNonNull", "(Ljava/lang/Object;)Ljava/lang/Object;"⟩ : MethodName) (head1 (Jvm.Cond.code (⟨"java/util/Objects", "requireNonNull", "(Ljava/lang/Object;)Ljava/lang/Object;"⟩ : MethodName) jdk_31_method_10_code 1 (some (.object "java/lang/Object")) :: ws) ({ frames := 0, cells := 0, slots := 0, locals := 0 } : Room)) (fun a U => a = #[(.ref a1)] ∧ Z.Warmed39 U.vm ∧ U.heap = h0) (fun _ _ _ _ _ => True) (fun _ U o U' => ∃ v L, o = .returned v ∧ Q_rnn Z a1 h0 n0 v U'.heap L ∧ FrameEnd U o U' L ({ frames := 0, cells := 0, slots := 0, locals := 0 } : Room).cells ({ frames := 0, cells := 0, slots := 0, locals := 0 } : Room).slots) := by
  refine MetFree.of_bodySF (plainFor_of_name pn_59230025) hisR ?_
  intro p e s m args below meth c s₁ Bd hml0 hP hK
  obtain ⟨rfl, hZ, hh⟩ := hP
  have hx := Bd.exec
  have hby := Bd.bytes
  have hlk := Bd.notSynchronized
  have hml : c.maxLocals = 1 := hml0
  have hown : s.vm.findClass "java/util/Objects" = some m.cls := findClass_of_methodNamed Bd.named
  have hnm := (name_of_methodNamed Bd.named Bd.method).1
  have X0 : Stand p l e ({ frames := 0, cells := 0, slots := 0, locals := 0 } : Room) s m #[(.ref a1)] below meth c s₁ [] 0 0 := Stand.of_body Bd
  have e0 : s₁.heap = h0 := by rw [← hh, Bd.state]; rfl
  have N0 := Fr.nil n0
  have Z0 : n0 ≤ h0.size := X00.1 ▸ X00.2.1
  have K0 : Keep h0 h0 ([] : List Addr) := Keep.refl _ _
  show OwnGoes p e below (fun o U' => ∃ v L, o = .returned v ∧ Q_rnn Z a1 h0 n0 v U'.heap L ∧ FrameEnd s o U' L ({ frames := 0, cells := 0, slots := 0, locals := 0 } : Room).cells ({ frames := 0, cells := 0, slots := 0, locals := 0 } : Room).slots) s₁ (entryFrame m #[(.ref a1)] 1)
  refine OwnGoes.step (T' := s₁) (g' := (mkF m 0 #[.val (.ref a1)] [])) (fun tgt kgo => castTop (ef_rnn m a1) kgo) ?_
  refine OwnGoes.step (T' := s₁) (g' := (mkF m 13 #[.val (.ref a1)] [(.ref a1)])) (fun tgt kgo => ?_) ?_
  · show Steps p.tables e below (s₁.setTop (mkF m 0 #[.val (.ref a1)] [])) tgt
    refine XS.aloadN X0.here hx rfl (hb hby dd_jdk_31_method_10_0) rfl rfl ?_
    show Steps p.tables e below (s₁.setTop (mkF m 1 #[.val (.ref a1)] [(.ref a1)])) tgt
    refine XS.ifnonnullYes X0.here hx rfl (pc0 := 1) (pc' := 12) rfl (hb hby dd_jdk_31_method_10_1) rfl (by decide) (by decide) ?_
    show Steps p.tables e below (s₁.setTop (mkF m 12 #[.val (.ref a1)] [])) tgt
    refine XS.aloadN X0.here hx rfl (hb hby dd_jdk_31_method_10_12) rfl rfl ?_
    exact kgo
  have hret : ∀ fs, (∀ (f : JFrame) (acts : List Action), f.method = m → f.locked = none → f.entered = [] → (doReturn e (s₁.setTop f) acts (some (.ref a1))).1 = s₁.setFrames fs) → Steps p.tables e below (s₁.setTop (mkF m 13 #[.val (.ref a1)] [(.ref a1)])) (s₁.setFrames fs) := by
    intro fs hr
    jvm_step X0.here [X0.here.top, hx, (hb hby dd_jdk_31_method_10_13), X0.method', Bd.returns, Value.isRef, FieldType.isReference]
    first | (intro acts; rw [hr _ acts rfl rfl rfl]) | rw [hr _ _ rfl rfl rfl]
    exact Steps.refl _
  refine own_leave X0 hlk (v := some (.ref a1)) (fun h => by rw [Bd.returns] at h; cases h) hret (by decide) (by decide) ?_
  show Q_rnn Z a1 h0 n0 _ s₁.heap _
  rw [e0]
  exact ⟨rfl, N0, rfl⟩
theorem ef_opi (m : MethodId) (x0 : Addr) (x1 : Addr) : entryFrame m #[(.ref x0), (.ref x1)] 2 = mkF m 0 #[.val (.ref x0), .val (.ref x1)] [] := by first | (simp [entryFrame, mkF, argsToLocals, Value.category]; done) | rfl
def Q_opi (Z : State) (o1 : Addr) (a1 : Addr) (u1 : Value) (h0 : Heap) (n0 : Nat) (v : Option Value) (h : Heap) (L : List Loc) : Prop := v = none ∧ Fr n0 L ∧ Keep h0 h ([o1] : List Addr) ∧ Exa Z h o1 "java/util/Optional" ∧ Fld Z h o1 "java/util/Optional" "value" "Ljava/lang/Object;" (.ref a1)
theorem pn_68366401 : plainName "java/util/Optional" = true := by first | (simp [plainName, overriddenIn]; done) | decide +kernel
theorem dd_jdk_32_method_2_0 : decode jdk_32_method_2_code 0 = .ok (.aload_n 0, 1) := by decide +kernel
theorem dd_jdk_32_method_2_1 : decode jdk_32_method_2_code 1 = .ok (.invokespecial 7, 3) := by decide +kernel
theorem dd_jdk_32_method_2_4 : decode jdk_32_method_2_code 4 = .ok (.aload_n 0, 1) := by decide +kernel
theorem dd_jdk_32_method_2_5 : decode jdk_32_method_2_code 5 = .ok (.aload_n 1, 1) := by decide +kernel
theorem dd_jdk_32_method_2_6 : decode jdk_32_method_2_code 6 = .ok (.putfield 13, 3) := by decide +kernel
theorem dd_jdk_32_method_2_9 : decode jdk_32_method_2_code 9 = .ok (.return_, 1) := by decide +kernel
set_option maxRecDepth 65536 in
set_option maxHeartbeats 40000000 in
theorem rm_opi (l : Launch) (Z : State) (a0 : Array Value) (hw : ∀ d ∈ tables_1, d.before a0 Z = true) (ws : List Jvm.Cond) (wG1 : Int32) (wO2 : Sta Z Z.heap "java/lang/String" "COMPACT_STRINGS" "Z" (.int wG1)) (wP5 : ¬ (wG1 = (0 : Int32))) (wG3 : Value) (wO4 : Sta Z Z.heap "jdk/internal/util/Preconditions" "SIOOBE_FORMATTER" "Ljava/util/function/BiFunction;" wG3) (wrG3 : wG3.isRef = true) (hstr : ∀ a ∈ Bundle.stringAtoms, a.before a0 Z = true) (wG5 : Addr) (wK5 : ClassId) (wO5 : Sta Z Z.heap "java/util/ArrayList" "DEFAULTCAPACITY_EMPTY_ELEMENTDATA" "[Ljava/lang/Object;" (.ref wG5)) (wV5 : Arv Z Z.heap wG5 wK5 (.object "java/lang/Object") (0 : Int32) [] .null) (wG6 : Addr) (wO6 : Sta Z Z.heap "java/util/Optional" "EMPTY" "Ljava/util/Optional;" (.ref wG6)) (wE6 : Exa Z Z.heap wG6 "java/util/Optional") (wF6 : Fld Z Z.heap wG6 "java/util/Optional" "value" "Ljava/lang/Object;" .null) (hEL : EW Z a0 consts_1) (h0 : Heap) (n0 : Nat) (X00 : Old Z n0 h0) (o1 : Addr) (a1 : Addr) (u1 : Value) (f0 : Exa Z h0 o1 "java/util/Optional") (f1 : Fld Z h0 o1 "java/util/Optional" "value" "Ljava/lang/Object;" u1) (f2 : n0 ≤ o1) :
    MetFree l (⟨"java/util/Optional", "<init>", "(Ljava/lang/Object;)V"⟩ : MethodName) (head1 (Jvm.Cond.code (⟨"java/util/Optional", "<init>", "(Ljava/lang/Object;)V"⟩ : MethodName) jdk_32_method_2_code 2 none :: ws) ({ frames := 1, cells := 0, slots := 0, locals := 12 } : Room)) (fun a U => a = #[(.ref o1), (.ref a1)] ∧ Z.Warmed39 U.vm ∧ U.heap = h0) (fun _ _ _ _ _ => True) (fun _ U o U' => ∃ v L, o = .returned v ∧ Q_opi Z o1 a1 u1 h0 n0 v U'.heap L ∧ FrameEnd U o U' L ({ frames := 1, cells := 0, slots := 0, locals := 12 } : Room).cells ({ frames := 1, cells := 0, slots := 0, locals := 12 } : Room).slots) := by
  refine MetFree.of_bodySF (plainFor_of_name pn_68366401) hisR ?_
  intro p e s m args below meth c s₁ Bd hml0 hP hK
  obtain ⟨rfl, hZ, hh⟩ := hP
  have hx := Bd.exec
  have hby := Bd.bytes
  have hlk := Bd.notSynchronized
  have hml : c.maxLocals = 2 := hml0
  have hown : s.vm.findClass "java/util/Optional" = some m.cls := findClass_of_methodNamed Bd.named
  have hnm := (name_of_methodNamed Bd.named Bd.method).1
  have X0 : Stand p l e ({ frames := 1, cells := 0, slots := 0, locals := 12 } : Room) s m #[(.ref o1), (.ref a1)] below meth c s₁ [] 0 0 := Stand.of_body Bd
  have e0 : s₁.heap = h0 := by rw [← hh, Bd.state]; rfl
  have N0 := Fr.nil n0
  have Z0 : n0 ≤ h0.size := X00.1 ▸ X00.2.1
  have K0 : Keep h0 h0 ([o1] : List Addr) := Keep.refl _ _
  show OwnGoes p e below (fun o U' => ∃ v L, o = .returned v ∧ Q_opi Z o1 a1 u1 h0 n0 v U'.heap L ∧ FrameEnd s o U' L ({ frames := 1, cells := 0, slots := 0, locals := 12 } : Room).cells ({ frames := 1, cells := 0, slots := 0, locals := 12 } : Room).slots) s₁ (entryFrame m #[(.ref o1), (.ref a1)] 2)
  refine OwnGoes.step (T' := s₁) (g' := (mkF m 0 #[.val (.ref o1), .val (.ref a1)] [])) (fun tgt kgo => castTop (ef_opi m o1 a1) kgo) ?_
  refine OwnGoes.step (T' := s₁) (g' := (mkF m 1 #[.val (.ref o1), .val (.ref a1)] [(.ref o1)])) (fun tgt kgo => ?_) ?_
  · show Steps p.tables e below (s₁.setTop (mkF m 0 #[.val (.ref o1), .val (.ref a1)] [])) tgt
    refine XS.aloadN X0.here hx rfl (hb hby dd_jdk_32_method_2_0) rfl rfl ?_
    exact kgo
  obtain ⟨T1, X1, e1, st1⟩ := initO X0 hx hZ hown (hw _ (List.mem_of_getElem? (i := 103) rfl)) (hw _ (List.mem_of_getElem? (i := 16) rfl)) (hw _ (List.mem_of_getElem? (i := 17) rfl)) e0 (g := (mkF m 1 #[.val (.ref o1), .val (.ref a1)] [(.ref o1)])) rfl (by rw [hml]; rfl) rfl (hb hby dd_jdk_32_method_2_1) (by decide) (W := 0) (by show 2 * 0 + _ ≤ _; exact Nat.le_of_eq rfl) (by decide)
  refine OwnGoes.step (T' := T1) (g' := (mkF m 4 #[.val (.ref o1), .val (.ref a1)] [])) st1 ?_
  refine OwnGoes.step (T' := T1) (g' := (mkF m 6 #[.val (.ref o1), .val (.ref a1)] [(.ref a1), (.ref o1)])) (fun tgt kgo => ?_) ?_
  · show Steps p.tables e below (T1.setTop (mkF m 4 #[.val (.ref o1), .val (.ref a1)] [])) tgt
    refine XS.aloadN X1.here hx rfl (hb hby dd_jdk_32_method_2_4) rfl rfl ?_
    show Steps p.tables e below (T1.setTop (mkF m 5 #[.val (.ref o1), .val (.ref a1)] [(.ref o1)])) tgt
    refine XS.aloadN X1.here hx rfl (hb hby dd_jdk_32_method_2_5) rfl rfl ?_
    exact kgo
  obtain ⟨T2, h2, X2, e2, W2, st2⟩ := putF X1 hx hZ hown (host := "") (Or.inl (hw _ (List.mem_of_getElem? (i := 104) rfl))) Via.refl e1 f1 f0 (Or.inr ⟨(hw _ (List.mem_of_getElem? (i := 105) rfl)), rfl, hnm⟩) (hw _ (List.mem_of_getElem? (i := 94) rfl)) (ty := (.object "java/lang/Object")) (by decide) rfl rfl (g := (mkF m 6 #[.val (.ref o1), .val (.ref a1)] [(.ref a1), (.ref o1)])) rfl rfl (hb hby dd_jdk_32_method_2_6)
  refine OwnGoes.step (T' := T2) (g' := (mkF m 9 #[.val (.ref o1), .val (.ref a1)] [])) st2 ?_
  have Fw2 := f1.same W2
  have F2_1 := f0.wr W2
  have Ol2 := X00.wr W2 f2
  have K2 : Keep h0 h2 ([o1] : List Addr) := K0.wr W2 (Or.inl (List.mem_of_getElem? (i := 0) rfl))
  have N2 := Fr.snoc X2 N0 f2
  refine own_leave X2 hlk (v := none) (fun _ => rfl) (fun fs hr => X2.returnOut hx Bd.returns (hb hby dd_jdk_32_method_2_9) hr) (by decide) (by decide) ?_
  show Q_opi Z o1 a1 u1 h0 n0 _ T2.heap _
  rw [e2]
  exact ⟨rfl, N2, K2, F2_1, Fw2⟩
theorem ef_opof (m : MethodId) (x0 : Addr) : entryFrame m #[(.ref x0)] 1 = mkF m 0 #[.val (.ref x0)] [] := by first | (simp [entryFrame, mkF, argsToLocals, Value.category]; done) | rfl
def Q_opof (Z : State) (a1 : Addr) (h0 : Heap) (n0 : Nat) (v : Option Value) (h : Heap) (L : List Loc) : Prop := ∃ (o : Addr), v = some (.ref o) ∧ Fr n0 L ∧ Keep h0 h ([] : List Addr) ∧ h0.size ≤ o ∧ Exa Z h o "java/util/Optional" ∧ Fld Z h o "java/util/Optional" "value" "Ljava/lang/Object;" (.ref a1)
theorem dd_jdk_32_method_3_0 : decode jdk_32_method_3_code 0 = .ok (.new 2, 3) := by decide +kernel
theorem dd_jdk_32_method_3_3 : decode jdk_32_method_3_code 3 = .ok (.dup, 1) := by decide +kernel
theorem dd_jdk_32_method_3_4 : decode jdk_32_method_3_code 4 = .ok (.aload_n 0, 1) := by decide +kernel
theorem dd_jdk_32_method_3_5 : decode jdk_32_method_3_code 5 = .ok (.invokestatic 17, 3) := by decide +kernel
theorem pd_3309300 : parseMethodDescriptor "(Ljava/lang/Object;)Ljava/lang/Object;" = some ⟨[(.object "java/lang/Object")], some (.object "java/lang/Object")⟩ := by decide +kernel
theorem dd_jdk_32_method_3_8 : decode jdk_32_method_3_code 8 = .ok (.invokespecial 23, 3) := by decide +kernel
theorem pd_23770943 : parseMethodDescriptor "(Ljava/lang/Object;)V" = some ⟨[(.object "java/lang/Object")], none⟩ := by decide +kernel
theorem dd_jdk_32_method_3_11 : decode jdk_32_method_3_code 11 = .ok (.areturn, 1) := by decide +kernel
set_option maxRecDepth 65536 in
set_option maxHeartbeats 40000000 in
theorem rm_opof (l : Launch) (Z : State) (a0 : Array Value) (hw : ∀ d ∈ tables_1, d.before a0 Z = true) (ws : List Jvm.Cond) (wG1 : Int32) (wO2 : Sta Z Z.heap "java/lang/String" "COMPACT_STRINGS" "Z" (.int wG1)) (wP5 : ¬ (wG1 = (0 : Int32))) (wG3 : Value) (wO4 : Sta Z Z.heap "jdk/internal/util/Preconditions" "SIOOBE_FORMATTER" "Ljava/util/function/BiFunction;" wG3) (wrG3 : wG3.isRef = true) (hstr : ∀ a ∈ Bundle.stringAtoms, a.before a0 Z = true) (wG5 : Addr) (wK5 : ClassId) (wO5 : Sta Z Z.heap "java/util/ArrayList" "DEFAULTCAPACITY_EMPTY_ELEMENTDATA" "[Ljava/lang/Object;" (.ref wG5)) (wV5 : Arv Z Z.heap wG5 wK5 (.object "java/lang/Object") (0 : Int32) [] .null) (wG6 : Addr) (wO6 : Sta Z Z.heap "java/util/Optional" "EMPTY" "Ljava/util/Optional;" (.ref wG6)) (wE6 : Exa Z Z.heap wG6 "java/util/Optional") (wF6 : Fld Z Z.heap wG6 "java/util/Optional" "value" "Ljava/lang/Object;" .null) (hEL : EW Z a0 consts_1) (h0 : Heap) (n0 : Nat) (X00 : Old Z n0 h0) (a1 : Addr) :
    MetFree l (⟨"java/util/Optional", "of", "(Ljava/lang/Object;)Ljava/util/Optional;"⟩ : MethodName) (head1 (Jvm.Cond.code (⟨"java/util/Optional", "of", "(Ljava/lang/Object;)Ljava/util/Optional;"⟩ : MethodName) jdk_32_method_3_code 1 (some (.object "java/util/Optional")) :: ws) ({ frames := 2, cells := 1, slots := 1, locals := 26 } : Room)) (fun a U => a = #[(.ref a1)] ∧ Z.Warmed39 U.vm ∧ U.heap = h0) (fun _ _ _ _ _ => True) (fun _ U o U' => ∃ v L, o = .returned v ∧ Q_opof Z a1 h0 n0 v U'.heap L ∧ FrameEnd U o U' L ({ frames := 2, cells := 1, slots := 1, locals := 26 } : Room).cells ({ frames := 2, cells := 1, slots := 1, locals := 26 } : Room).slots) := by
  refine MetFree.of_bodySF (plainFor_of_name pn_68366401) hisR ?_
  intro p e s m args below meth c s₁ Bd hml0 hP hK
  obtain ⟨rfl, hZ, hh⟩ := hP
  have hx := Bd.exec
  have hby := Bd.bytes
  have hlk := Bd.notSynchronized
  have hml : c.maxLocals = 1 := hml0
  have hown : s.vm.findClass "java/util/Optional" = some m.cls := findClass_of_methodNamed Bd.named
  have hnm := (name_of_methodNamed Bd.named Bd.method).1
  have X0 : Stand p l e ({ frames := 2, cells := 1, slots := 1, locals := 26 } : Room) s m #[(.ref a1)] below meth c s₁ [] 0 0 := Stand.of_body Bd
  have e0 : s₁.heap = h0 := by rw [← hh, Bd.state]; rfl
  have N0 := Fr.nil n0
  have Z0 : n0 ≤ h0.size := X00.1 ▸ X00.2.1
  have K0 : Keep h0 h0 ([] : List Addr) := Keep.refl _ _
  show OwnGoes p e below (fun o U' => ∃ v L, o = .returned v ∧ Q_opof Z a1 h0 n0 v U'.heap L ∧ FrameEnd s o U' L ({ frames := 2, cells := 1, slots := 1, locals := 26 } : Room).cells ({ frames := 2, cells := 1, slots := 1, locals := 26 } : Room).slots) s₁ (entryFrame m #[(.ref a1)] 1)
  refine OwnGoes.step (T' := s₁) (g' := (mkF m 0 #[.val (.ref a1)] [])) (fun tgt kgo => castTop (ef_opof m a1) kgo) ?_
  obtain ⟨T1, h1, X1, e1, E1, A1, D1, U1, st1⟩ := newO X0 hx hZ hown (hw _ (List.mem_of_getElem? (i := 93) rfl)) (hw _ (List.mem_of_getElem? (i := 94) rfl)) (hw _ (List.mem_of_getElem? (i := 91) rfl)) e0 (g := (mkF m 0 #[.val (.ref a1)] [])) rfl (hb hby dd_jdk_32_method_3_0) (by decide) (by decide)
  obtain ⟨b1, g1⟩ : ∃ z, z = h0.size := ⟨_, rfl⟩
  rw [← g1] at A1 D1 U1 st1
  refine OwnGoes.step (T' := T1) (g' := (mkF m 3 #[.val (.ref a1)] [(.ref b1)])) st1 ?_
  have g_b1 : n0 ≤ b1 := Nat.le_trans (Nat.le_trans Z0 K0.1) (Nat.le_of_eq g1.symm)
  have s_b1 : h0.size ≤ b1 := Nat.le_trans K0.1 (Nat.le_of_eq g1.symm)
  have Ol1 := X00.ext E1
  have K1 : Keep h0 h1 ([] : List Addr) := K0.ext E1
  have F1_1 : Fld Z h1 b1 "java/util/Optional" "value" "Ljava/lang/Object;" .null := D1 (Or.inr (hw _ (List.mem_of_getElem? (i := 105) rfl))) (ty := (.object "java/lang/Object")) (by decide)
  refine OwnGoes.step (T' := T1) (g' := (mkF m 5 #[.val (.ref a1)] [(.ref a1), (.ref b1), (.ref b1)])) (fun tgt kgo => ?_) ?_
  · show Steps p.tables e below (T1.setTop (mkF m 3 #[.val (.ref a1)] [(.ref b1)])) tgt
    refine XS.dup X1.here hx rfl (hb hby dd_jdk_32_method_3_3) rfl rfl ?_
    show Steps p.tables e below (T1.setTop (mkF m 4 #[.val (.ref a1)] [(.ref b1), (.ref b1)])) tgt
    refine XS.aloadN X1.here hx rfl (hb hby dd_jdk_32_method_3_4) rfl rfl ?_
    exact kgo
  obtain ⟨_, _, ⟨T2, L2, k2, n2⟩, -, X2, ⟨Lc2, hQ2, l2, y2, z2⟩, st2⟩ := Jvm.LawKit.callS X1 hx (y := (⟨"java/util/Objects", "requireNonNull", "(Ljava/lang/Object;)Ljava/lang/Object;"⟩ : MethodName)) hown (mvT hZ (hw _ (List.mem_of_getElem? (i := 95) rfl))) (mvT hZ (hw _ (List.mem_of_getElem? (i := 96) rfl))) (mvT hZ (hw _ (List.mem_of_getElem? (i := 97) rfl))) (mvT hZ (hw _ (List.mem_of_getElem? (i := 98) rfl))) (by decide) (backOf (W := 2) (rm_rnn l Z a0 hw [] wG1 wO2 wP5 wG3 wO4 wrG3 hstr wG5 wK5 wO5 wV5 wG6 wO6 wE6 wF6 hEL h1 n0 Ol1 a1) hZ (hw _ (List.mem_of_getElem? (i := 98) rfl)) (hw _ (List.mem_of_getElem? (i := 97) rfl)) (by decide) (by decide)) (g := (mkF m 5 #[.val (.ref a1)] [(.ref a1), (.ref b1), (.ref b1)])) rfl (by rw [hml]; rfl) (argsL := [(.ref a1)]) (rest := [(.ref b1), (.ref b1)]) (lenOf pd_3309300 rfl) rfl (by show 2 * 0 + _ ≤ _; exact Nat.le_of_eq rfl) (hb hby dd_jdk_32_method_3_5) (fun _ _ => ⟨rfl, e1, (by decide : 1 + 0 ≤ _), (by decide : 1 + 0 ≤ _)⟩)
  dsimp only [Pt.U, Pt.locs, Pt.cells, Pt.slots] at X2 l2 y2 z2 st2 hQ2
  subst l2 y2 z2
  obtain ⟨rfl, Nq2, eq2⟩ := hQ2
  refine OwnGoes.step (T' := T2) (g' := (mkF m 8 #[.val (.ref a1)] [(.ref a1), (.ref b1), (.ref b1)])) st2 ?_
  have N2 := Fr.app N0 Nq2
  obtain ⟨_, _, ⟨T3, L3, k3, n3⟩, -, X3, ⟨Lc3, hQ3, l3, y3, z3⟩, st3⟩ := X2.specialBack hx (y := (⟨"java/util/Optional", "<init>", "(Ljava/lang/Object;)V"⟩ : MethodName)) rfl hown (mvT hZ (hw _ (List.mem_of_getElem? (i := 99) rfl))) (mvT hZ (hw _ (List.mem_of_getElem? (i := 100) rfl))) (mvT hZ (hw _ (List.mem_of_getElem? (i := 102) rfl))) (by decide) (backOf (W := 1) (rm_opi l Z a0 hw [] wG1 wO2 wP5 wG3 wO4 wrG3 hstr wG5 wK5 wO5 wV5 wG6 wO6 wE6 wF6 hEL h1 n0 Ol1 b1 a1 .null A1 F1_1 g_b1) hZ (hw _ (List.mem_of_getElem? (i := 102) rfl)) (hw _ (List.mem_of_getElem? (i := 91) rfl)) (by decide) (by decide)) (g := (mkF m 8 #[.val (.ref a1)] [(.ref a1), (.ref b1), (.ref b1)])) rfl (by rw [hml]; rfl) (Steps.refl _) (a := b1) (argsL := [(.ref a1)]) (rest := [(.ref b1)]) (lenOf pd_23770943 rfl) rfl (by show 2 * 0 + _ ≤ _; exact Nat.le_of_eq rfl) (hb hby dd_jdk_32_method_3_8) (fun _ _ => ⟨rfl, eq2, (by decide : 1 + 0 ≤ _), (by decide : 1 + 0 ≤ _)⟩)
  dsimp only [Pt.U, Pt.locs, Pt.cells, Pt.slots] at X3 l3 y3 z3 st3 hQ3
  subst l3 y3 z3
  obtain ⟨rfl, Nq3, Kq3, fq3_0, fq3_1⟩ := hQ3
  refine OwnGoes.tr (T' := T3) (g' := (mkF m 11 #[.val (.ref a1)] [(.ref b1)])) st3 ?_
  have N3 := Fr.app N2 Nq3
  have F3_2 := A1.keep Kq3
  have Ol3 := Ol1.keep Kq3 (allS g_b1 all0)
  have K3 : Keep h0 T3.heap ([] : List Addr) := K1.trans Kq3 (allS (Or.inr s_b1) all0)
  have hret : ∀ fs, (∀ (f : JFrame) (acts : List Action), f.method = m → f.locked = none → f.entered = [] → (doReturn e (T3.setTop f) acts (some (.ref b1))).1 = T3.setFrames fs) → Steps p.tables e below (T3.setTop (mkF m 11 #[.val (.ref a1)] [(.ref b1)])) (T3.setFrames fs) := by
    intro fs hr
    jvm_step X3.here [X3.here.top, hx, (hb hby dd_jdk_32_method_3_11), X3.method', Bd.returns, Value.isRef, FieldType.isReference]
    first | (intro acts; rw [hr _ acts rfl rfl rfl]) | rw [hr _ _ rfl rfl rfl]
    exact Steps.refl _
  refine own_leave X3 hlk (v := some (.ref b1)) (fun h => by rw [Bd.returns] at h; cases h) hret (by decide) (by decide) ?_
  show Q_opof Z a1 h0 n0 _ T3.heap _
  exact ⟨b1, rfl, N3, K3, s_b1, fq3_0, fq3_1⟩
theorem ef_ope (m : MethodId)  : entryFrame m #[] 1 = mkF m 0 #[.unset] [] := by first | (simp [entryFrame, mkF, argsToLocals, Value.category]; done) | rfl
def Q_ope (Z : State) (wG6 : Addr)  (h0 : Heap) (n0 : Nat) (v : Option Value) (h : Heap) (L : List Loc) : Prop := v = some (.ref wG6) ∧ Fr n0 L ∧ h = h0
theorem dd_jdk_32_method_1_0 : decode jdk_32_method_1_code 0 = .ok (.getstatic 1, 3) := by decide +kernel
theorem dd_jdk_32_method_1_3 : decode jdk_32_method_1_code 3 = .ok (.astore_n 0, 1) := by decide +kernel
theorem dd_jdk_32_method_1_4 : decode jdk_32_method_1_code 4 = .ok (.aload_n 0, 1) := by decide +kernel
theorem dd_jdk_32_method_1_5 : decode jdk_32_method_1_code 5 = .ok (.areturn, 1) := by decide +kernel
set_option maxRecDepth 65536 in
set_option maxHeartbeats 40000000 in
theorem rm_ope (l : Launch) (Z : State) (a0 : Array Value) (hw : ∀ d ∈ tables_1, d.before a0 Z = true) (ws : List Jvm.Cond) (wG1 : Int32) (wO2 : Sta Z Z.heap "java/lang/String" "COMPACT_STRINGS" "Z" (.int wG1)) (wP5 : ¬ (wG1 = (0 : Int32))) (wG3 : Value) (wO4 : Sta Z Z.heap "jdk/internal/util/Preconditions" "SIOOBE_FORMATTER" "Ljava/util/function/BiFunction;" wG3) (wrG3 : wG3.isRef = true) (hstr : ∀ a ∈ Bundle.stringAtoms, a.before a0 Z = true) (wG5 : Addr) (wK5 : ClassId) (wO5 : Sta Z Z.heap "java/util/ArrayList" "DEFAULTCAPACITY_EMPTY_ELEMENTDATA" "[Ljava/lang/Object;" (.ref wG5)) (wV5 : Arv Z Z.heap wG5 wK5 (.object "java/lang/Object") (0 : Int32) [] .null) (wG6 : Addr) (wO6 : Sta Z Z.heap "java/util/Optional" "EMPTY" "Ljava/util/Optional;" (.ref wG6)) (wE6 : Exa Z Z.heap wG6 "java/util/Optional") (wF6 : Fld Z Z.heap wG6 "java/util/Optional" "value" "Ljava/lang/Object;" .null) (hEL : EW Z a0 consts_1) (h0 : Heap) (n0 : Nat) (X00 : Old Z n0 h0)  :
    MetFree l (⟨"java/util/Optional", "empty", "()Ljava/util/Optional;"⟩ : MethodName) (head1 (Jvm.Cond.code (⟨"java/util/Optional", "empty", "()Ljava/util/Optional;"⟩ : MethodName) jdk_32_method_1_code 1 (some (.object "java/util/Optional")) :: ws) ({ frames := 0, cells := 0, slots := 0, locals := 0 } : Room)) (fun a U => a = #[] ∧ Z.Warmed39 U.vm ∧ U.heap = h0) (fun _ _ _ _ _ => True) (fun _ U o U' => ∃ v L, o = .returned v ∧ Q_ope Z wG6  h0 n0 v U'.heap L ∧ FrameEnd U o U' L ({ frames := 0, cells := 0, slots := 0, locals := 0 } : Room).cells ({ frames := 0, cells := 0, slots := 0, locals := 0 } : Room).slots) := by
  refine MetFree.of_bodySF (plainFor_of_name pn_68366401) hisR ?_
  intro p e s m args below meth c s₁ Bd hml0 hP hK
  obtain ⟨rfl, hZ, hh⟩ := hP
  have hx := Bd.exec
  have hby := Bd.bytes
  have hlk := Bd.notSynchronized
  have hml : c.maxLocals = 1 := hml0
  have hown : s.vm.findClass "java/util/Optional" = some m.cls := findClass_of_methodNamed Bd.named
  have hnm := (name_of_methodNamed Bd.named Bd.method).1
  have X0 : Stand p l e ({ frames := 0, cells := 0, slots := 0, locals := 0 } : Room) s m #[] below meth c s₁ [] 0 0 := Stand.of_body Bd
  have e0 : s₁.heap = h0 := by rw [← hh, Bd.state]; rfl
  have N0 := Fr.nil n0
  have Z0 : n0 ≤ h0.size := X00.1 ▸ X00.2.1
  have K0 : Keep h0 h0 ([] : List Addr) := Keep.refl _ _
  show OwnGoes p e below (fun o U' => ∃ v L, o = .returned v ∧ Q_ope Z wG6  h0 n0 v U'.heap L ∧ FrameEnd s o U' L ({ frames := 0, cells := 0, slots := 0, locals := 0 } : Room).cells ({ frames := 0, cells := 0, slots := 0, locals := 0 } : Room).slots) s₁ (entryFrame m #[] 1)
  refine OwnGoes.step (T' := s₁) (g' := (mkF m 0 #[.unset] [])) (fun tgt kgo => castTop (ef_ope m ) kgo) ?_
  obtain ⟨T1, X1, e1, st1⟩ := getS2 X0 hx hZ hown (host := "") (Or.inl (hw _ (List.mem_of_getElem? (i := 150) rfl))) Via.refl e0 (wO6.ext X00.2) (g := (mkF m 0 #[.unset] [])) rfl (hb hby dd_jdk_32_method_1_0)
  refine OwnGoes.step (T' := T1) (g' := (mkF m 3 #[.unset] [(.ref wG6)])) st1 ?_
  refine OwnGoes.step (T' := T1) (g' := (mkF m 5 #[.val (.ref wG6)] [(.ref wG6)])) (fun tgt kgo => ?_) ?_
  · show Steps p.tables e below (T1.setTop (mkF m 3 #[.unset] [(.ref wG6)])) tgt
    refine XS.astoreN X1.here hx rfl (hb hby dd_jdk_32_method_1_3) rfl rfl (l' := #[.val (.ref wG6)]) rfl ?_
    show Steps p.tables e below (T1.setTop (mkF m 4 #[.val (.ref wG6)] [])) tgt
    refine XS.aloadN X1.here hx rfl (hb hby dd_jdk_32_method_1_4) rfl rfl ?_
    exact kgo
  have hret : ∀ fs, (∀ (f : JFrame) (acts : List Action), f.method = m → f.locked = none → f.entered = [] → (doReturn e (T1.setTop f) acts (some (.ref wG6))).1 = T1.setFrames fs) → Steps p.tables e below (T1.setTop (mkF m 5 #[.val (.ref wG6)] [(.ref wG6)])) (T1.setFrames fs) := by
    intro fs hr
    jvm_step X1.here [X1.here.top, hx, (hb hby dd_jdk_32_method_1_5), X1.method', Bd.returns, Value.isRef, FieldType.isReference]
    first | (intro acts; rw [hr _ acts rfl rfl rfl]) | rw [hr _ _ rfl rfl rfl]
    exact Steps.refl _
  refine own_leave X1 hlk (v := some (.ref wG6)) (fun h => by rw [Bd.returns] at h; cases h) hret (by decide) (by decide) ?_
  show Q_ope Z wG6  h0 n0 _ T1.heap _
  rw [e1]
  exact ⟨rfl, N0, rfl⟩
theorem ef_isp1 (m : MethodId) (x0 : Addr) : entryFrame m #[(.ref x0)] 1 = mkF m 0 #[.val (.ref x0)] [] := by first | (simp [entryFrame, mkF, argsToLocals, Value.category]; done) | rfl
def Q_isp1 (Z : State) (o1 : Addr) (a1 : Addr) (h0 : Heap) (n0 : Nat) (v : Option Value) (h : Heap) (L : List Loc) : Prop := v = some (.int (1 : Int32)) ∧ Fr n0 L ∧ h = h0
theorem dd_jdk_32_method_6_0 : decode jdk_32_method_6_code 0 = .ok (.aload_n 0, 1) := by decide +kernel
theorem dd_jdk_32_method_6_1 : decode jdk_32_method_6_code 1 = .ok (.getfield 13, 3) := by decide +kernel
theorem dd_jdk_32_method_6_4 : decode jdk_32_method_6_code 4 = .ok (.ifnull 7, 3) := by decide +kernel
theorem dd_jdk_32_method_6_7 : decode jdk_32_method_6_code 7 = .ok (.iconst 1, 1) := by decide +kernel
theorem dd_jdk_32_method_6_8 : decode jdk_32_method_6_code 8 = .ok (.goto 4, 3) := by decide +kernel
theorem dd_jdk_32_method_6_12 : decode jdk_32_method_6_code 12 = .ok (.ireturn, 1) := by decide +kernel
set_option maxRecDepth 65536 in
set_option maxHeartbeats 40000000 in
theorem rm_isp1 (l : Launch) (Z : State) (a0 : Array Value) (hw : ∀ d ∈ tables_1, d.before a0 Z = true) (ws : List Jvm.Cond) (wG1 : Int32) (wO2 : Sta Z Z.heap "java/lang/String" "COMPACT_STRINGS" "Z" (.int wG1)) (wP5 : ¬ (wG1 = (0 : Int32))) (wG3 : Value) (wO4 : Sta Z Z.heap "jdk/internal/util/Preconditions" "SIOOBE_FORMATTER" "Ljava/util/function/BiFunction;" wG3) (wrG3 : wG3.isRef = true) (hstr : ∀ a ∈ Bundle.stringAtoms, a.before a0 Z = true) (wG5 : Addr) (wK5 : ClassId) (wO5 : Sta Z Z.heap "java/util/ArrayList" "DEFAULTCAPACITY_EMPTY_ELEMENTDATA" "[Ljava/lang/Object;" (.ref wG5)) (wV5 : Arv Z Z.heap wG5 wK5 (.object "java/lang/Object") (0 : Int32) [] .null) (wG6 : Addr) (wO6 : Sta Z Z.heap "java/util/Optional" "EMPTY" "Ljava/util/Optional;" (.ref wG6)) (wE6 : Exa Z Z.heap wG6 "java/util/Optional") (wF6 : Fld Z Z.heap wG6 "java/util/Optional" "value" "Ljava/lang/Object;" .null) (hEL : EW Z a0 consts_1) (h0 : Heap) (n0 : Nat) (X00 : Old Z n0 h0) (o1 : Addr) (a1 : Addr) (f0 : Fld Z h0 o1 "java/util/Optional" "value" "Ljava/lang/Object;" (.ref a1)) :
    MetFree l (⟨"java/util/Optional", "isPresent", "()Z"⟩ : MethodName) (head1 (Jvm.Cond.code (⟨"java/util/Optional", "isPresent", "()Z"⟩ : MethodName) jdk_32_method_6_code 1 (some .boolean) :: ws) ({ frames := 0, cells := 0, slots := 0, locals := 0 } : Room)) (fun a U => a = #[(.ref o1)] ∧ Z.Warmed39 U.vm ∧ U.heap = h0) (fun _ _ _ _ _ => True) (fun _ U o U' => ∃ v L, o = .returned v ∧ Q_isp1 Z o1 a1 h0 n0 v U'.heap L ∧ FrameEnd U o U' L ({ frames := 0, cells := 0, slots := 0, locals := 0 } : Room).cells ({ frames := 0, cells := 0, slots := 0, locals := 0 } : Room).slots) := by
  refine MetFree.of_bodySF (plainFor_of_name pn_68366401) hisR ?_
  intro p e s m args below meth c s₁ Bd hml0 hP hK
  obtain ⟨rfl, hZ, hh⟩ := hP
  have hx := Bd.exec
  have hby := Bd.bytes
  have hlk := Bd.notSynchronized
  have hml : c.maxLocals = 1 := hml0
  have hown : s.vm.findClass "java/util/Optional" = some m.cls := findClass_of_methodNamed Bd.named
  have hnm := (name_of_methodNamed Bd.named Bd.method).1
  have X0 : Stand p l e ({ frames := 0, cells := 0, slots := 0, locals := 0 } : Room) s m #[(.ref o1)] below meth c s₁ [] 0 0 := Stand.of_body Bd
  have e0 : s₁.heap = h0 := by rw [← hh, Bd.state]; rfl
  have N0 := Fr.nil n0
  have Z0 : n0 ≤ h0.size := X00.1 ▸ X00.2.1
  have K0 : Keep h0 h0 ([] : List Addr) := Keep.refl _ _
  show OwnGoes p e below (fun o U' => ∃ v L, o = .returned v ∧ Q_isp1 Z o1 a1 h0 n0 v U'.heap L ∧ FrameEnd s o U' L ({ frames := 0, cells := 0, slots := 0, locals := 0 } : Room).cells ({ frames := 0, cells := 0, slots := 0, locals := 0 } : Room).slots) s₁ (entryFrame m #[(.ref o1)] 1)
  refine OwnGoes.step (T' := s₁) (g' := (mkF m 0 #[.val (.ref o1)] [])) (fun tgt kgo => castTop (ef_isp1 m o1) kgo) ?_
  refine OwnGoes.step (T' := s₁) (g' := (mkF m 1 #[.val (.ref o1)] [(.ref o1)])) (fun tgt kgo => ?_) ?_
  · show Steps p.tables e below (s₁.setTop (mkF m 0 #[.val (.ref o1)] [])) tgt
    refine XS.aloadN X0.here hx rfl (hb hby dd_jdk_32_method_6_0) rfl rfl ?_
    exact kgo
  obtain ⟨T1, X1, e1, st1⟩ := getF X0 hx hZ hown (host := "") (Or.inl (hw _ (List.mem_of_getElem? (i := 104) rfl))) Via.refl e0 f0 (g := (mkF m 1 #[.val (.ref o1)] [(.ref o1)])) rfl rfl (hb hby dd_jdk_32_method_6_1)
  refine OwnGoes.step (T' := T1) (g' := (mkF m 4 #[.val (.ref o1)] [(.ref a1)])) st1 ?_
  refine OwnGoes.step (T' := T1) (g' := (mkF m 12 #[.val (.ref o1)] [(.int (1 : Int32))])) (fun tgt kgo => ?_) ?_
  · show Steps p.tables e below (T1.setTop (mkF m 4 #[.val (.ref o1)] [(.ref a1)])) tgt
    refine XS.ifnullNo X1.here hx rfl (hb hby dd_jdk_32_method_6_4) rfl ?_
    show Steps p.tables e below (T1.setTop (mkF m 7 #[.val (.ref o1)] [])) tgt
    refine XS.iconst X1.here hx rfl (hb hby dd_jdk_32_method_6_7) ?_
    show Steps p.tables e below (T1.setTop (mkF m 8 #[.val (.ref o1)] [(.int (1 : Int32))])) tgt
    refine XS.goto X1.here hx rfl (pc0 := 8) (pc' := 12) rfl (hb hby dd_jdk_32_method_6_8) (by decide) (by decide) ?_
    exact kgo
  refine own_leave X1 hlk (v := some (.int (1 : Int32))) (fun h => by rw [Bd.returns] at h; cases h) (fun fs hr => retN X1 hx (t := .boolean) Bd.returns (by simp) (hb hby dd_jdk_32_method_6_12) (by rw [(by decide : nar .boolean (1 : Int32) = (1 : Int32))]; exact hr)) (by decide) (by decide) ?_
  show Q_isp1 Z o1 a1 h0 n0 _ T1.heap _
  rw [e1]
  exact ⟨rfl, N0, rfl⟩
theorem ef_isp0 (m : MethodId) (x0 : Addr) : entryFrame m #[(.ref x0)] 1 = mkF m 0 #[.val (.ref x0)] [] := by first | (simp [entryFrame, mkF, argsToLocals, Value.category]; done) | rfl
def Q_isp0 (Z : State) (o1 : Addr) (h0 : Heap) (n0 : Nat) (v : Option Value) (h : Heap) (L : List Loc) : Prop := v = some (.int (0 : Int32)) ∧ Fr n0 L ∧ h = h0
theorem dd_jdk_32_method_6_11 : decode jdk_32_method_6_code 11 = .ok (.iconst 0, 1) := by decide +kernel
set_option maxRecDepth 65536 in
set_option maxHeartbeats 40000000 in
theorem rm_isp0 (l : Launch) (Z : State) (a0 : Array Value) (hw : ∀ d ∈ tables_1, d.before a0 Z = true) (ws : List Jvm.Cond) (wG1 : Int32) (wO2 : Sta Z Z.heap "java/lang/String" "COMPACT_STRINGS" "Z" (.int wG1)) (wP5 : ¬ (wG1 = (0 : Int32))) (wG3 : Value) (wO4 : Sta Z Z.heap "jdk/internal/util/Preconditions" "SIOOBE_FORMATTER" "Ljava/util/function/BiFunction;" wG3) (wrG3 : wG3.isRef = true) (hstr : ∀ a ∈ Bundle.stringAtoms, a.before a0 Z = true) (wG5 : Addr) (wK5 : ClassId) (wO5 : Sta Z Z.heap "java/util/ArrayList" "DEFAULTCAPACITY_EMPTY_ELEMENTDATA" "[Ljava/lang/Object;" (.ref wG5)) (wV5 : Arv Z Z.heap wG5 wK5 (.object "java/lang/Object") (0 : Int32) [] .null) (wG6 : Addr) (wO6 : Sta Z Z.heap "java/util/Optional" "EMPTY" "Ljava/util/Optional;" (.ref wG6)) (wE6 : Exa Z Z.heap wG6 "java/util/Optional") (wF6 : Fld Z Z.heap wG6 "java/util/Optional" "value" "Ljava/lang/Object;" .null) (hEL : EW Z a0 consts_1) (h0 : Heap) (n0 : Nat) (X00 : Old Z n0 h0) (o1 : Addr) (f0 : Fld Z h0 o1 "java/util/Optional" "value" "Ljava/lang/Object;" .null) :
    MetFree l (⟨"java/util/Optional", "isPresent", "()Z"⟩ : MethodName) (head1 (Jvm.Cond.code (⟨"java/util/Optional", "isPresent", "()Z"⟩ : MethodName) jdk_32_method_6_code 1 (some .boolean) :: ws) ({ frames := 0, cells := 0, slots := 0, locals := 0 } : Room)) (fun a U => a = #[(.ref o1)] ∧ Z.Warmed39 U.vm ∧ U.heap = h0) (fun _ _ _ _ _ => True) (fun _ U o U' => ∃ v L, o = .returned v ∧ Q_isp0 Z o1 h0 n0 v U'.heap L ∧ FrameEnd U o U' L ({ frames := 0, cells := 0, slots := 0, locals := 0 } : Room).cells ({ frames := 0, cells := 0, slots := 0, locals := 0 } : Room).slots) := by
  refine MetFree.of_bodySF (plainFor_of_name pn_68366401) hisR ?_
  intro p e s m args below meth c s₁ Bd hml0 hP hK
  obtain ⟨rfl, hZ, hh⟩ := hP
  have hx := Bd.exec
  have hby := Bd.bytes
  have hlk := Bd.notSynchronized
  have hml : c.maxLocals = 1 := hml0
  have hown : s.vm.findClass "java/util/Optional" = some m.cls := findClass_of_methodNamed Bd.named
  have hnm := (name_of_methodNamed Bd.named Bd.method).1
  have X0 : Stand p l e ({ frames := 0, cells := 0, slots := 0, locals := 0 } : Room) s m #[(.ref o1)] below meth c s₁ [] 0 0 := Stand.of_body Bd
  have e0 : s₁.heap = h0 := by rw [← hh, Bd.state]; rfl
  have N0 := Fr.nil n0
  have Z0 : n0 ≤ h0.size := X00.1 ▸ X00.2.1
  have K0 : Keep h0 h0 ([] : List Addr) := Keep.refl _ _
  show OwnGoes p e below (fun o U' => ∃ v L, o = .returned v ∧ Q_isp0 Z o1 h0 n0 v U'.heap L ∧ FrameEnd s o U' L ({ frames := 0, cells := 0, slots := 0, locals := 0 } : Room).cells ({ frames := 0, cells := 0, slots := 0, locals := 0 } : Room).slots) s₁ (entryFrame m #[(.ref o1)] 1)
  refine OwnGoes.step (T' := s₁) (g' := (mkF m 0 #[.val (.ref o1)] [])) (fun tgt kgo => castTop (ef_isp0 m o1) kgo) ?_
  refine OwnGoes.step (T' := s₁) (g' := (mkF m 1 #[.val (.ref o1)] [(.ref o1)])) (fun tgt kgo => ?_) ?_
  · show Steps p.tables e below (s₁.setTop (mkF m 0 #[.val (.ref o1)] [])) tgt
    refine XS.aloadN X0.here hx rfl (hb hby dd_jdk_32_method_6_0) rfl rfl ?_
    exact kgo
  obtain ⟨T1, X1, e1, st1⟩ := getF X0 hx hZ hown (host := "") (Or.inl (hw _ (List.mem_of_getElem? (i := 104) rfl))) Via.refl e0 f0 (g := (mkF m 1 #[.val (.ref o1)] [(.ref o1)])) rfl rfl (hb hby dd_jdk_32_method_6_1)
  refine OwnGoes.step (T' := T1) (g' := (mkF m 4 #[.val (.ref o1)] [.null])) st1 ?_
  refine OwnGoes.step (T' := T1) (g' := (mkF m 12 #[.val (.ref o1)] [(.int (0 : Int32))])) (fun tgt kgo => ?_) ?_
  · show Steps p.tables e below (T1.setTop (mkF m 4 #[.val (.ref o1)] [.null])) tgt
    refine XS.ifnullYes X1.here hx rfl (pc0 := 4) (pc' := 11) rfl (hb hby dd_jdk_32_method_6_4) rfl (by decide) (by decide) ?_
    show Steps p.tables e below (T1.setTop (mkF m 11 #[.val (.ref o1)] [])) tgt
    refine XS.iconst X1.here hx rfl (hb hby dd_jdk_32_method_6_11) ?_
    exact kgo
  refine own_leave X1 hlk (v := some (.int (0 : Int32))) (fun h => by rw [Bd.returns] at h; cases h) (fun fs hr => retN X1 hx (t := .boolean) Bd.returns (by simp) (hb hby dd_jdk_32_method_6_12) (by rw [(by decide : nar .boolean (0 : Int32) = (0 : Int32))]; exact hr)) (by decide) (by decide) ?_
  show Q_isp0 Z o1 h0 n0 _ T1.heap _
  rw [e1]
  exact ⟨rfl, N0, rfl⟩
theorem ef_opget (m : MethodId) (x0 : Addr) : entryFrame m #[(.ref x0)] 1 = mkF m 0 #[.val (.ref x0)] [] := by first | (simp [entryFrame, mkF, argsToLocals, Value.category]; done) | rfl
def Q_opget (Z : State) (o1 : Addr) (a1 : Addr) (h0 : Heap) (n0 : Nat) (v : Option Value) (h : Heap) (L : List Loc) : Prop := v = some (.ref a1) ∧ Fr n0 L ∧ h = h0
theorem dd_jdk_32_method_5_0 : decode jdk_32_method_5_code 0 = .ok (.aload_n 0, 1) := by decide +kernel
theorem dd_jdk_32_method_5_1 : decode jdk_32_method_5_code 1 = .ok (.getfield 13, 3) := by decide +kernel
theorem dd_jdk_32_method_5_4 : decode jdk_32_method_5_code 4 = .ok (.ifnonnull 13, 3) := by decide +kernel
theorem dd_jdk_32_method_5_17 : decode jdk_32_method_5_code 17 = .ok (.aload_n 0, 1) := by decide +kernel
theorem dd_jdk_32_method_5_18 : decode jdk_32_method_5_code 18 = .ok (.getfield 13, 3) := by decide +kernel
theorem dd_jdk_32_method_5_21 : decode jdk_32_method_5_code 21 = .ok (.areturn, 1) := by decide +kernel
set_option maxRecDepth 65536 in
set_option maxHeartbeats 40000000 in
theorem rm_opget (l : Launch) (Z : State) (a0 : Array Value) (hw : ∀ d ∈ tables_1, d.before a0 Z = true) (ws : List Jvm.Cond) (wG1 : Int32) (wO2 : Sta Z Z.heap "java/lang/String" "COMPACT_STRINGS" "Z" (.int wG1)) (wP5 : ¬ (wG1 = (0 : Int32))) (wG3 : Value) (wO4 : Sta Z Z.heap "jdk/internal/util/Preconditions" "SIOOBE_FORMATTER" "Ljava/util/function/BiFunction;" wG3) (wrG3 : wG3.isRef = true) (hstr : ∀ a ∈ Bundle.stringAtoms, a.before a0 Z = true) (wG5 : Addr) (wK5 : ClassId) (wO5 : Sta Z Z.heap "java/util/ArrayList" "DEFAULTCAPACITY_EMPTY_ELEMENTDATA" "[Ljava/lang/Object;" (.ref wG5)) (wV5 : Arv Z Z.heap wG5 wK5 (.object "java/lang/Object") (0 : Int32) [] .null) (wG6 : Addr) (wO6 : Sta Z Z.heap "java/util/Optional" "EMPTY" "Ljava/util/Optional;" (.ref wG6)) (wE6 : Exa Z Z.heap wG6 "java/util/Optional") (wF6 : Fld Z Z.heap wG6 "java/util/Optional" "value" "Ljava/lang/Object;" .null) (hEL : EW Z a0 consts_1) (h0 : Heap) (n0 : Nat) (X00 : Old Z n0 h0) (o1 : Addr) (a1 : Addr) (f0 : Fld Z h0 o1 "java/util/Optional" "value" "Ljava/lang/Object;" (.ref a1)) :
    MetFree l (⟨"java/util/Optional", "get", "()Ljava/lang/Object;"⟩ : MethodName) (head1 (Jvm.Cond.code (⟨"java/util/Optional", "get", "()Ljava/lang/Object;"⟩ : MethodName) jdk_32_method_5_code 1 (some (.object "java/lang/Object")) :: ws) ({ frames := 0, cells := 0, slots := 0, locals := 0 } : Room)) (fun a U => a = #[(.ref o1)] ∧ Z.Warmed39 U.vm ∧ U.heap = h0) (fun _ _ _ _ _ => True) (fun _ U o U' => ∃ v L, o = .returned v ∧ Q_opget Z o1 a1 h0 n0 v U'.heap L ∧ FrameEnd U o U' L ({ frames := 0, cells := 0, slots := 0, locals := 0 } : Room).cells ({ frames := 0, cells := 0, slots := 0, locals := 0 } : Room).slots) := by
  refine MetFree.of_bodySF (plainFor_of_name pn_68366401) hisR ?_
  intro p e s m args below meth c s₁ Bd hml0 hP hK
  obtain ⟨rfl, hZ, hh⟩ := hP
  have hx := Bd.exec
  have hby := Bd.bytes
  have hlk := Bd.notSynchronized
  have hml : c.maxLocals = 1 := hml0
  have hown : s.vm.findClass "java/util/Optional" = some m.cls := findClass_of_methodNamed Bd.named
  have hnm := (name_of_methodNamed Bd.named Bd.method).1
  have X0 : Stand p l e ({ frames := 0, cells := 0, slots := 0, locals := 0 } : Room) s m #[(.ref o1)] below meth c s₁ [] 0 0 := Stand.of_body Bd
  have e0 : s₁.heap = h0 := by rw [← hh, Bd.state]; rfl
  have N0 := Fr.nil n0
  have Z0 : n0 ≤ h0.size := X00.1 ▸ X00.2.1
  have K0 : Keep h0 h0 ([] : List Addr) := Keep.refl _ _
  show OwnGoes p e below (fun o U' => ∃ v L, o = .returned v ∧ Q_opget Z o1 a1 h0 n0 v U'.heap L ∧ FrameEnd s o U' L ({ frames := 0, cells := 0, slots := 0, locals := 0 } : Room).cells ({ frames := 0, cells := 0, slots := 0, locals := 0 } : Room).slots) s₁ (entryFrame m #[(.ref o1)] 1)
  refine OwnGoes.step (T' := s₁) (g' := (mkF m 0 #[.val (.ref o1)] [])) (fun tgt kgo => castTop (ef_opget m o1) kgo) ?_
  refine OwnGoes.step (T' := s₁) (g' := (mkF m 1 #[.val (.ref o1)] [(.ref o1)])) (fun tgt kgo => ?_) ?_
  · show Steps p.tables e below (s₁.setTop (mkF m 0 #[.val (.ref o1)] [])) tgt
    refine XS.aloadN X0.here hx rfl (hb hby dd_jdk_32_method_5_0) rfl rfl ?_
    exact kgo
  obtain ⟨T1, X1, e1, st1⟩ := getF X0 hx hZ hown (host := "") (Or.inl (hw _ (List.mem_of_getElem? (i := 104) rfl))) Via.refl e0 f0 (g := (mkF m 1 #[.val (.ref o1)] [(.ref o1)])) rfl rfl (hb hby dd_jdk_32_method_5_1)
  refine OwnGoes.step (T' := T1) (g' := (mkF m 4 #[.val (.ref o1)] [(.ref a1)])) st1 ?_
  refine OwnGoes.step (T' := T1) (g' := (mkF m 18 #[.val (.ref o1)] [(.ref o1)])) (fun tgt kgo => ?_) ?_
  · show Steps p.tables e below (T1.setTop (mkF m 4 #[.val (.ref o1)] [(.ref a1)])) tgt
    refine XS.ifnonnullYes X1.here hx rfl (pc0 := 4) (pc' := 17) rfl (hb hby dd_jdk_32_method_5_4) rfl (by decide) (by decide) ?_
    show Steps p.tables e below (T1.setTop (mkF m 17 #[.val (.ref o1)] [])) tgt
    refine XS.aloadN X1.here hx rfl (hb hby dd_jdk_32_method_5_17) rfl rfl ?_
    exact kgo
  obtain ⟨T2, X2, e2, st2⟩ := getF X1 hx hZ hown (host := "") (Or.inl (hw _ (List.mem_of_getElem? (i := 104) rfl))) Via.refl e1 f0 (g := (mkF m 18 #[.val (.ref o1)] [(.ref o1)])) rfl rfl (hb hby dd_jdk_32_method_5_18)
  refine OwnGoes.step (T' := T2) (g' := (mkF m 21 #[.val (.ref o1)] [(.ref a1)])) st2 ?_
  have hret : ∀ fs, (∀ (f : JFrame) (acts : List Action), f.method = m → f.locked = none → f.entered = [] → (doReturn e (T2.setTop f) acts (some (.ref a1))).1 = T2.setFrames fs) → Steps p.tables e below (T2.setTop (mkF m 21 #[.val (.ref o1)] [(.ref a1)])) (T2.setFrames fs) := by
    intro fs hr
    jvm_step X2.here [X2.here.top, hx, (hb hby dd_jdk_32_method_5_21), X2.method', Bd.returns, Value.isRef, FieldType.isReference]
    first | (intro acts; rw [hr _ acts rfl rfl rfl]) | rw [hr _ _ rfl rfl rfl]
    exact Steps.refl _
  refine own_leave X2 hlk (v := some (.ref a1)) (fun h => by rw [Bd.returns] at h; cases h) hret (by decide) (by decide) ?_
  show Q_opget Z o1 a1 h0 n0 _ T2.heap _
  rw [e2]
  exact ⟨rfl, N0, rfl⟩
theorem ef_rec (m : MethodId) (x0 : Addr) : entryFrame m #[(.ref x0)] 1 = mkF m 0 #[.val (.ref x0)] [] := by first | (simp [entryFrame, mkF, argsToLocals, Value.category]; done) | rfl
def Q_rec (Z : State) (a1 : Addr) (h0 : Heap) (n0 : Nat) (v : Option Value) (h : Heap) (L : List Loc) : Prop := v = none ∧ Fr n0 L ∧ h = h0
theorem pn_28199424 : plainName "java/lang/Record" = true := by first | (simp [plainName, overriddenIn]; done) | decide +kernel
theorem dd_jdk_30_method_1_0 : decode jdk_30_method_1_code 0 = .ok (.aload_n 0, 1) := by decide +kernel
theorem dd_jdk_30_method_1_1 : decode jdk_30_method_1_code 1 = .ok (.invokespecial 1, 3) := by decide +kernel
theorem dd_jdk_30_method_1_4 : decode jdk_30_method_1_code 4 = .ok (.return_, 1) := by decide +kernel
set_option maxRecDepth 65536 in
set_option maxHeartbeats 40000000 in
theorem rm_rec (l : Launch) (Z : State) (a0 : Array Value) (hw : ∀ d ∈ tables_1, d.before a0 Z = true) (ws : List Jvm.Cond) (wG1 : Int32) (wO2 : Sta Z Z.heap "java/lang/String" "COMPACT_STRINGS" "Z" (.int wG1)) (wP5 : ¬ (wG1 = (0 : Int32))) (wG3 : Value) (wO4 : Sta Z Z.heap "jdk/internal/util/Preconditions" "SIOOBE_FORMATTER" "Ljava/util/function/BiFunction;" wG3) (wrG3 : wG3.isRef = true) (hstr : ∀ a ∈ Bundle.stringAtoms, a.before a0 Z = true) (wG5 : Addr) (wK5 : ClassId) (wO5 : Sta Z Z.heap "java/util/ArrayList" "DEFAULTCAPACITY_EMPTY_ELEMENTDATA" "[Ljava/lang/Object;" (.ref wG5)) (wV5 : Arv Z Z.heap wG5 wK5 (.object "java/lang/Object") (0 : Int32) [] .null) (wG6 : Addr) (wO6 : Sta Z Z.heap "java/util/Optional" "EMPTY" "Ljava/util/Optional;" (.ref wG6)) (wE6 : Exa Z Z.heap wG6 "java/util/Optional") (wF6 : Fld Z Z.heap wG6 "java/util/Optional" "value" "Ljava/lang/Object;" .null) (hEL : EW Z a0 consts_1) (h0 : Heap) (n0 : Nat) (X00 : Old Z n0 h0) (a1 : Addr) :
    MetFree l (⟨"java/lang/Record", "<init>", "()V"⟩ : MethodName) (head1 (Jvm.Cond.code (⟨"java/lang/Record", "<init>", "()V"⟩ : MethodName) jdk_30_method_1_code 1 none :: ws) ({ frames := 1, cells := 0, slots := 0, locals := 12 } : Room)) (fun a U => a = #[(.ref a1)] ∧ Z.Warmed39 U.vm ∧ U.heap = h0) (fun _ _ _ _ _ => True) (fun _ U o U' => ∃ v L, o = .returned v ∧ Q_rec Z a1 h0 n0 v U'.heap L ∧ FrameEnd U o U' L ({ frames := 1, cells := 0, slots := 0, locals := 12 } : Room).cells ({ frames := 1, cells := 0, slots := 0, locals := 12 } : Room).slots) := by
  refine MetFree.of_bodySF (plainFor_of_name pn_28199424) hisR ?_
  intro p e s m args below meth c s₁ Bd hml0 hP hK
  obtain ⟨rfl, hZ, hh⟩ := hP
  have hx := Bd.exec
  have hby := Bd.bytes
  have hlk := Bd.notSynchronized
  have hml : c.maxLocals = 1 := hml0
  have hown : s.vm.findClass "java/lang/Record" = some m.cls := findClass_of_methodNamed Bd.named
  have hnm := (name_of_methodNamed Bd.named Bd.method).1
  have X0 : Stand p l e ({ frames := 1, cells := 0, slots := 0, locals := 12 } : Room) s m #[(.ref a1)] below meth c s₁ [] 0 0 := Stand.of_body Bd
  have e0 : s₁.heap = h0 := by rw [← hh, Bd.state]; rfl
  have N0 := Fr.nil n0
  have Z0 : n0 ≤ h0.size := X00.1 ▸ X00.2.1
  have K0 : Keep h0 h0 ([] : List Addr) := Keep.refl _ _
  show OwnGoes p e below (fun o U' => ∃ v L, o = .returned v ∧ Q_rec Z a1 h0 n0 v U'.heap L ∧ FrameEnd s o U' L ({ frames := 1, cells := 0, slots := 0, locals := 12 } : Room).cells ({ frames := 1, cells := 0, slots := 0, locals := 12 } : Room).slots) s₁ (entryFrame m #[(.ref a1)] 1)
  refine OwnGoes.step (T' := s₁) (g' := (mkF m 0 #[.val (.ref a1)] [])) (fun tgt kgo => castTop (ef_rec m a1) kgo) ?_
  refine OwnGoes.step (T' := s₁) (g' := (mkF m 1 #[.val (.ref a1)] [(.ref a1)])) (fun tgt kgo => ?_) ?_
  · show Steps p.tables e below (s₁.setTop (mkF m 0 #[.val (.ref a1)] [])) tgt
    refine XS.aloadN X0.here hx rfl (hb hby dd_jdk_30_method_1_0) rfl rfl ?_
    exact kgo
  obtain ⟨T1, X1, e1, st1⟩ := initO X0 hx hZ hown (hw _ (List.mem_of_getElem? (i := 117) rfl)) (hw _ (List.mem_of_getElem? (i := 16) rfl)) (hw _ (List.mem_of_getElem? (i := 17) rfl)) e0 (g := (mkF m 1 #[.val (.ref a1)] [(.ref a1)])) rfl (by rw [hml]; rfl) rfl (hb hby dd_jdk_30_method_1_1) (by decide) (W := 0) (by show 2 * 0 + _ ≤ _; exact Nat.le_of_eq rfl) (by decide)
  refine OwnGoes.step (T' := T1) (g' := (mkF m 4 #[.val (.ref a1)] [])) st1 ?_
  refine own_leave X1 hlk (v := none) (fun _ => rfl) (fun fs hr => X1.returnOut hx Bd.returns (hb hby dd_jdk_30_method_1_4) hr) (by decide) (by decide) ?_
  show Q_rec Z a1 h0 n0 _ T1.heap _
  rw [e1]
  exact ⟨rfl, N0, rfl⟩
theorem ef_eli (m : MethodId) (x0 : Addr) (x1 : Addr) (x2 : Int32) (x3 : Addr) (x4 : Addr) : entryFrame m #[(.ref x0), (.ref x1), (.int x2), (.ref x3), (.ref x4)] 5 = mkF m 0 #[.val (.ref x0), .val (.ref x1), .val (.int x2), .val (.ref x3), .val (.ref x4)] [] := by first | (simp [entryFrame, mkF, argsToLocals, Value.category]; done) | rfl
def Q_eli (Z : State) (o1 : Addr) (a1 : Addr) (p1 : Int32) (a2 : Addr) (a3 : Addr) (h0 : Heap) (n0 : Nat) (v : Option Value) (h : Heap) (L : List Loc) : Prop := v = none ∧ Fr n0 L ∧ Keep h0 h ([o1] : List Addr) ∧ Exa Z h o1 "com/example/veilstone/veilstone/fhir/Definitions$Element" ∧ Fld Z h o1 "com/example/veilstone/veilstone/fhir/Definitions$Element" "path" "Ljava/lang/String;" (.ref a1) ∧ Fld Z h o1 "com/example/veilstone/veilstone/fhir/Definitions$Element" "reused" "Ljava/util/Optional;" (.ref a3)
theorem pn_64911028 : plainName "com/example/veilstone/veilstone/fhir/Definitions$Element" = true := by first | (simp [plainName, overriddenIn]; done) | decide +kernel
theorem dd_prog_17_method_1_0 : decode prog_17_method_1_code 0 = .ok (.aload_n 0, 1) := by decide +kernel
theorem dd_prog_17_method_1_1 : decode prog_17_method_1_code 1 = .ok (.invokespecial 1, 3) := by decide +kernel
theorem dd_prog_17_method_1_4 : decode prog_17_method_1_code 4 = .ok (.aload_n 0, 1) := by decide +kernel
theorem dd_prog_17_method_1_5 : decode prog_17_method_1_code 5 = .ok (.aload_n 1, 1) := by decide +kernel
theorem dd_prog_17_method_1_6 : decode prog_17_method_1_code 6 = .ok (.putfield 7, 3) := by decide +kernel
theorem dd_prog_17_method_1_9 : decode prog_17_method_1_code 9 = .ok (.aload_n 0, 1) := by decide +kernel
theorem dd_prog_17_method_1_10 : decode prog_17_method_1_code 10 = .ok (.iload_n 2, 1) := by decide +kernel
theorem dd_prog_17_method_1_11 : decode prog_17_method_1_code 11 = .ok (.putfield 13, 3) := by decide +kernel
theorem dd_prog_17_method_1_14 : decode prog_17_method_1_code 14 = .ok (.aload_n 0, 1) := by decide +kernel
theorem dd_prog_17_method_1_15 : decode prog_17_method_1_code 15 = .ok (.aload_n 3, 1) := by decide +kernel
theorem dd_prog_17_method_1_16 : decode prog_17_method_1_code 16 = .ok (.putfield 17, 3) := by decide +kernel
theorem dd_prog_17_method_1_19 : decode prog_17_method_1_code 19 = .ok (.aload_n 0, 1) := by decide +kernel
theorem dd_prog_17_method_1_20 : decode prog_17_method_1_code 20 = .ok (.aload 4, 2) := by decide +kernel
theorem dd_prog_17_method_1_22 : decode prog_17_method_1_code 22 = .ok (.putfield 21, 3) := by decide +kernel
theorem dd_prog_17_method_1_25 : decode prog_17_method_1_code 25 = .ok (.return_, 1) := by decide +kernel
set_option maxRecDepth 65536 in
set_option maxHeartbeats 40000000 in
theorem rm_eli (l : Launch) (Z : State) (a0 : Array Value) (hw : ∀ d ∈ tables_1, d.before a0 Z = true) (ws : List Jvm.Cond) (wG1 : Int32) (wO2 : Sta Z Z.heap "java/lang/String" "COMPACT_STRINGS" "Z" (.int wG1)) (wP5 : ¬ (wG1 = (0 : Int32))) (wG3 : Value) (wO4 : Sta Z Z.heap "jdk/internal/util/Preconditions" "SIOOBE_FORMATTER" "Ljava/util/function/BiFunction;" wG3) (wrG3 : wG3.isRef = true) (hstr : ∀ a ∈ Bundle.stringAtoms, a.before a0 Z = true) (wG5 : Addr) (wK5 : ClassId) (wO5 : Sta Z Z.heap "java/util/ArrayList" "DEFAULTCAPACITY_EMPTY_ELEMENTDATA" "[Ljava/lang/Object;" (.ref wG5)) (wV5 : Arv Z Z.heap wG5 wK5 (.object "java/lang/Object") (0 : Int32) [] .null) (wG6 : Addr) (wO6 : Sta Z Z.heap "java/util/Optional" "EMPTY" "Ljava/util/Optional;" (.ref wG6)) (wE6 : Exa Z Z.heap wG6 "java/util/Optional") (wF6 : Fld Z Z.heap wG6 "java/util/Optional" "value" "Ljava/lang/Object;" .null) (hEL : EW Z a0 consts_1) (h0 : Heap) (n0 : Nat) (X00 : Old Z n0 h0) (o1 : Addr) (a1 : Addr) (p1 : Int32) (a2 : Addr) (a3 : Addr) (f0 : Exa Z h0 o1 "com/example/veilstone/veilstone/fhir/Definitions$Element") (f1 : Fld Z h0 o1 "com/example/veilstone/veilstone/fhir/Definitions$Element" "path" "Ljava/lang/String;" .null) (f2 : Fld Z h0 o1 "com/example/veilstone/veilstone/fhir/Definitions$Element" "repeating" "Z" (.int (0 : Int32))) (f3 : Fld Z h0 o1 "com/example/veilstone/veilstone/fhir/Definitions$Element" "types" "Ljava/util/List;" .null) (f4 : Fld Z h0 o1 "com/example/veilstone/veilstone/fhir/Definitions$Element" "reused" "Ljava/util/Optional;" .null) (f5 : n0 ≤ o1) :
    MetFree l (⟨"com/example/veilstone/veilstone/fhir/Definitions$Element", "<init>", "(Ljava/lang/String;ZLjava/util/List;Ljava/util/Optional;)V"⟩ : MethodName) (head1 (Jvm.Cond.code (⟨"com/example/veilstone/veilstone/fhir/Definitions$Element", "<init>", "(Ljava/lang/String;ZLjava/util/List;Ljava/util/Optional;)V"⟩ : MethodName) prog_17_method_1_code 5 none :: ws) ({ frames := 2, cells := 0, slots := 0, locals := 24 } : Room)) (fun a U => a = #[(.ref o1), (.ref a1), (.int p1), (.ref a2), (.ref a3)] ∧ Z.Warmed39 U.vm ∧ U.heap = h0) (fun _ _ _ _ _ => True) (fun _ U o U' => ∃ v L, o = .returned v ∧ Q_eli Z o1 a1 p1 a2 a3 h0 n0 v U'.heap L ∧ FrameEnd U o U' L ({ frames := 2, cells := 0, slots := 0, locals := 24 } : Room).cells ({ frames := 2, cells := 0, slots := 0, locals := 24 } : Room).slots) := by
  refine MetFree.of_bodySF (plainFor_of_name pn_64911028) hisR ?_
  intro p e s m args below meth c s₁ Bd hml0 hP hK
  obtain ⟨rfl, hZ, hh⟩ := hP
  have hx := Bd.exec
  have hby := Bd.bytes
  have hlk := Bd.notSynchronized
  have hml : c.maxLocals = 5 := hml0
  have hown : s.vm.findClass "com/example/veilstone/veilstone/fhir/Definitions$Element" = some m.cls := findClass_of_methodNamed Bd.named
  have hnm := (name_of_methodNamed Bd.named Bd.method).1
  have X0 : Stand p l e ({ frames := 2, cells := 0, slots := 0, locals := 24 } : Room) s m #[(.ref o1), (.ref a1), (.int p1), (.ref a2), (.ref a3)] below meth c s₁ [] 0 0 := Stand.of_body Bd
  have e0 : s₁.heap = h0 := by rw [← hh, Bd.state]; rfl
  have N0 := Fr.nil n0
  have Z0 : n0 ≤ h0.size := X00.1 ▸ X00.2.1
  have K0 : Keep h0 h0 ([o1] : List Addr) := Keep.refl _ _
  show OwnGoes p e below (fun o U' => ∃ v L, o = .returned v ∧ Q_eli Z o1 a1 p1 a2 a3 h0 n0 v U'.heap L ∧ FrameEnd s o U' L ({ frames := 2, cells := 0, slots := 0, locals := 24 } : Room).cells ({ frames := 2, cells := 0, slots := 0, locals := 24 } : Room).slots) s₁ (entryFrame m #[(.ref o1), (.ref a1), (.int p1), (.ref a2), (.ref a3)] 5)
  refine OwnGoes.step (T' := s₁) (g' := (mkF m 0 #[.val (.ref o1), .val (.ref a1), .val (.int p1), .val (.ref a2), .val (.ref a3)] [])) (fun tgt kgo => castTop (ef_eli m o1 a1 p1 a2 a3) kgo) ?_
  refine OwnGoes.step (T' := s₁) (g' := (mkF m 1 #[.val (.ref o1), .val (.ref a1), .val (.int p1), .val (.ref a2), .val (.ref a3)] [(.ref o1)])) (fun tgt kgo => ?_) ?_
  · show Steps p.tables e below (s₁.setTop (mkF m 0 #[.val (.ref o1), .val (.ref a1), .val (.int p1), .val (.ref a2), .val (.ref a3)] [])) tgt
    refine XS.aloadN X0.here hx rfl (hb hby dd_prog_17_method_1_0) rfl rfl ?_
    exact kgo
  obtain ⟨_, _, ⟨T1, L1, k1, n1⟩, -, X1, ⟨Lc1, hQ1, l1, y1, z1⟩, st1⟩ := X0.specialBack hx (y := (⟨"java/lang/Record", "<init>", "()V"⟩ : MethodName)) rfl hown (mvT hZ (hw _ (List.mem_of_getElem? (i := 112) rfl))) (mvT hZ (hw _ (List.mem_of_getElem? (i := 113) rfl))) (mvT hZ (hw _ (List.mem_of_getElem? (i := 116) rfl))) (by decide) (backOf (W := 0) (rm_rec l Z a0 hw [] wG1 wO2 wP5 wG3 wO4 wrG3 hstr wG5 wK5 wO5 wV5 wG6 wO6 wE6 wF6 hEL h0 n0 X00 o1) hZ (hw _ (List.mem_of_getElem? (i := 116) rfl)) (hw _ (List.mem_of_getElem? (i := 115) rfl)) (by decide) (by decide)) (g := (mkF m 1 #[.val (.ref o1), .val (.ref a1), .val (.int p1), .val (.ref a2), .val (.ref a3)] [(.ref o1)])) rfl (by rw [hml]; rfl) (Steps.refl _) (a := o1) (argsL := []) (rest := []) (lenOf pd_57008992 rfl) rfl (by show 2 * 0 + _ ≤ _; exact Nat.le_of_eq rfl) (hb hby dd_prog_17_method_1_1) (fun _ _ => ⟨rfl, e0, (by decide : 0 + 0 ≤ _), (by decide : 0 + 0 ≤ _)⟩)
  dsimp only [Pt.U, Pt.locs, Pt.cells, Pt.slots] at X1 l1 y1 z1 st1 hQ1
  subst l1 y1 z1
  obtain ⟨rfl, Nq1, eq1⟩ := hQ1
  refine OwnGoes.tr (T' := T1) (g' := (mkF m 4 #[.val (.ref o1), .val (.ref a1), .val (.int p1), .val (.ref a2), .val (.ref a3)] [])) st1 ?_
  have N1 := Fr.app N0 Nq1
  refine OwnGoes.step (T' := T1) (g' := (mkF m 6 #[.val (.ref o1), .val (.ref a1), .val (.int p1), .val (.ref a2), .val (.ref a3)] [(.ref a1), (.ref o1)])) (fun tgt kgo => ?_) ?_
  · show Steps p.tables e below (T1.setTop (mkF m 4 #[.val (.ref o1), .val (.ref a1), .val (.int p1), .val (.ref a2), .val (.ref a3)] [])) tgt
    refine XS.aloadN X1.here hx rfl (hb hby dd_prog_17_method_1_4) rfl rfl ?_
    show Steps p.tables e below (T1.setTop (mkF m 5 #[.val (.ref o1), .val (.ref a1), .val (.int p1), .val (.ref a2), .val (.ref a3)] [(.ref o1)])) tgt
    refine XS.aloadN X1.here hx rfl (hb hby dd_prog_17_method_1_5) rfl rfl ?_
    exact kgo
  obtain ⟨T2, h2, X2, e2, W2, st2⟩ := putF X1 hx hZ hown (host := "") (Or.inl (hw _ (List.mem_of_getElem? (i := 118) rfl))) Via.refl eq1 f1 f0 (Or.inr ⟨(hw _ (List.mem_of_getElem? (i := 119) rfl)), rfl, hnm⟩) (hw _ (List.mem_of_getElem? (i := 107) rfl)) (ty := (.object "java/lang/String")) (by decide) rfl rfl (g := (mkF m 6 #[.val (.ref o1), .val (.ref a1), .val (.int p1), .val (.ref a2), .val (.ref a3)] [(.ref a1), (.ref o1)])) rfl rfl (hb hby dd_prog_17_method_1_6)
  refine OwnGoes.step (T' := T2) (g' := (mkF m 9 #[.val (.ref o1), .val (.ref a1), .val (.int p1), .val (.ref a2), .val (.ref a3)] [])) st2 ?_
  have Fw2 := f1.same W2
  have F2_1 := f0.wr W2
  have F2_2 := f2.other W2 (Or.inr (slot_ne (Or.inr (hw _ (List.mem_of_getElem? (i := 121) rfl))) (Or.inr (hw _ (List.mem_of_getElem? (i := 119) rfl))) (by decide) (t := .boolean) (t' := (.object "java/lang/String")) (by decide) (by decide)))
  have F2_3 := f3.other W2 (Or.inr (slot_ne (Or.inr (hw _ (List.mem_of_getElem? (i := 123) rfl))) (Or.inr (hw _ (List.mem_of_getElem? (i := 119) rfl))) (by decide) (t := (.object "java/util/List")) (t' := (.object "java/lang/String")) (by decide) (by decide)))
  have F2_4 := f4.other W2 (Or.inr (slot_ne (Or.inr (hw _ (List.mem_of_getElem? (i := 125) rfl))) (Or.inr (hw _ (List.mem_of_getElem? (i := 119) rfl))) (by decide) (t := (.object "java/util/Optional")) (t' := (.object "java/lang/String")) (by decide) (by decide)))
  have Ol2 := X00.wr W2 f5
  have K2 : Keep h0 h2 ([o1] : List Addr) := K0.wr W2 (Or.inl (List.mem_of_getElem? (i := 0) rfl))
  have N2 := Fr.snoc X2 N1 f5
  refine OwnGoes.step (T' := T2) (g' := (mkF m 11 #[.val (.ref o1), .val (.ref a1), .val (.int p1), .val (.ref a2), .val (.ref a3)] [(.int p1), (.ref o1)])) (fun tgt kgo => ?_) ?_
  · show Steps p.tables e below (T2.setTop (mkF m 9 #[.val (.ref o1), .val (.ref a1), .val (.int p1), .val (.ref a2), .val (.ref a3)] [])) tgt
    refine XS.aloadN X2.here hx rfl (hb hby dd_prog_17_method_1_9) rfl rfl ?_
    show Steps p.tables e below (T2.setTop (mkF m 10 #[.val (.ref o1), .val (.ref a1), .val (.int p1), .val (.ref a2), .val (.ref a3)] [(.ref o1)])) tgt
    refine XS.iloadN X2.here hx rfl (hb hby dd_prog_17_method_1_10) rfl ?_
    exact kgo
  obtain ⟨T3, h3, X3, e3, W3, st3⟩ := putFN X2 hx hZ hown (hw _ (List.mem_of_getElem? (i := 120) rfl)) Via.refl e2 F2_2 F2_1 (Or.inr ⟨(hw _ (List.mem_of_getElem? (i := 121) rfl)), rfl, hnm⟩) (hw _ (List.mem_of_getElem? (i := 107) rfl)) (ty := .boolean) (v' := (.int (nar .boolean p1))) (by decide) rfl (fits_nar_bool _) (g := (mkF m 11 #[.val (.ref o1), .val (.ref a1), .val (.int p1), .val (.ref a2), .val (.ref a3)] [(.int p1), (.ref o1)])) rfl rfl (hb hby dd_prog_17_method_1_11)
  refine OwnGoes.step (T' := T3) (g' := (mkF m 14 #[.val (.ref o1), .val (.ref a1), .val (.int p1), .val (.ref a2), .val (.ref a3)] [])) st3 ?_
  have Fw3 := F2_2.same W3
  have F3_5 := F2_1.wr W3
  have F3_6 := Fw2.other W3 (Or.inr (slot_ne (Or.inr (hw _ (List.mem_of_getElem? (i := 119) rfl))) (Or.inr (hw _ (List.mem_of_getElem? (i := 121) rfl))) (by decide) (t := (.object "java/lang/String")) (t' := .boolean) (by decide) (by decide)))
  have F3_7 := F2_3.other W3 (Or.inr (slot_ne (Or.inr (hw _ (List.mem_of_getElem? (i := 123) rfl))) (Or.inr (hw _ (List.mem_of_getElem? (i := 121) rfl))) (by decide) (t := (.object "java/util/List")) (t' := .boolean) (by decide) (by decide)))
  have F3_8 := F2_4.other W3 (Or.inr (slot_ne (Or.inr (hw _ (List.mem_of_getElem? (i := 125) rfl))) (Or.inr (hw _ (List.mem_of_getElem? (i := 121) rfl))) (by decide) (t := (.object "java/util/Optional")) (t' := .boolean) (by decide) (by decide)))
  have Ol3 := Ol2.wr W3 f5
  have K3 : Keep h0 h3 ([o1] : List Addr) := K2.wr W3 (Or.inl (List.mem_of_getElem? (i := 0) rfl))
  have N3 := Fr.snoc X3 N2 f5
  refine OwnGoes.step (T' := T3) (g' := (mkF m 16 #[.val (.ref o1), .val (.ref a1), .val (.int p1), .val (.ref a2), .val (.ref a3)] [(.ref a2), (.ref o1)])) (fun tgt kgo => ?_) ?_
  · show Steps p.tables e below (T3.setTop (mkF m 14 #[.val (.ref o1), .val (.ref a1), .val (.int p1), .val (.ref a2), .val (.ref a3)] [])) tgt
    refine XS.aloadN X3.here hx rfl (hb hby dd_prog_17_method_1_14) rfl rfl ?_
    show Steps p.tables e below (T3.setTop (mkF m 15 #[.val (.ref o1), .val (.ref a1), .val (.int p1), .val (.ref a2), .val (.ref a3)] [(.ref o1)])) tgt
    refine XS.aloadN X3.here hx rfl (hb hby dd_prog_17_method_1_15) rfl rfl ?_
    exact kgo
  obtain ⟨T4, h4, X4, e4, W4, st4⟩ := putF X3 hx hZ hown (host := "") (Or.inl (hw _ (List.mem_of_getElem? (i := 122) rfl))) Via.refl e3 F3_7 F3_5 (Or.inr ⟨(hw _ (List.mem_of_getElem? (i := 123) rfl)), rfl, hnm⟩) (hw _ (List.mem_of_getElem? (i := 107) rfl)) (ty := (.object "java/util/List")) (by decide) rfl rfl (g := (mkF m 16 #[.val (.ref o1), .val (.ref a1), .val (.int p1), .val (.ref a2), .val (.ref a3)] [(.ref a2), (.ref o1)])) rfl rfl (hb hby dd_prog_17_method_1_16)
  refine OwnGoes.step (T' := T4) (g' := (mkF m 19 #[.val (.ref o1), .val (.ref a1), .val (.int p1), .val (.ref a2), .val (.ref a3)] [])) st4 ?_
  have Fw4 := F3_7.same W4
  have F4_9 := F3_5.wr W4
  have F4_10 := F3_6.other W4 (Or.inr (slot_ne (Or.inr (hw _ (List.mem_of_getElem? (i := 119) rfl))) (Or.inr (hw _ (List.mem_of_getElem? (i := 123) rfl))) (by decide) (t := (.object "java/lang/String")) (t' := (.object "java/util/List")) (by decide) (by decide)))
  have F4_11 := Fw3.other W4 (Or.inr (slot_ne (Or.inr (hw _ (List.mem_of_getElem? (i := 121) rfl))) (Or.inr (hw _ (List.mem_of_getElem? (i := 123) rfl))) (by decide) (t := .boolean) (t' := (.object "java/util/List")) (by decide) (by decide)))
  have F4_12 := F3_8.other W4 (Or.inr (slot_ne (Or.inr (hw _ (List.mem_of_getElem? (i := 125) rfl))) (Or.inr (hw _ (List.mem_of_getElem? (i := 123) rfl))) (by decide) (t := (.object "java/util/Optional")) (t' := (.object "java/util/List")) (by decide) (by decide)))
  have Ol4 := Ol3.wr W4 f5
  have K4 : Keep h0 h4 ([o1] : List Addr) := K3.wr W4 (Or.inl (List.mem_of_getElem? (i := 0) rfl))
  have N4 := Fr.snoc X4 N3 f5
  refine OwnGoes.step (T' := T4) (g' := (mkF m 22 #[.val (.ref o1), .val (.ref a1), .val (.int p1), .val (.ref a2), .val (.ref a3)] [(.ref a3), (.ref o1)])) (fun tgt kgo => ?_) ?_
  · show Steps p.tables e below (T4.setTop (mkF m 19 #[.val (.ref o1), .val (.ref a1), .val (.int p1), .val (.ref a2), .val (.ref a3)] [])) tgt
    refine XS.aloadN X4.here hx rfl (hb hby dd_prog_17_method_1_19) rfl rfl ?_
    show Steps p.tables e below (T4.setTop (mkF m 20 #[.val (.ref o1), .val (.ref a1), .val (.int p1), .val (.ref a2), .val (.ref a3)] [(.ref o1)])) tgt
    refine XS.aload X4.here hx rfl (hb hby dd_prog_17_method_1_20) rfl rfl ?_
    exact kgo
  obtain ⟨T5, h5, X5, e5, W5, st5⟩ := putF X4 hx hZ hown (host := "") (Or.inl (hw _ (List.mem_of_getElem? (i := 124) rfl))) Via.refl e4 F4_12 F4_9 (Or.inr ⟨(hw _ (List.mem_of_getElem? (i := 125) rfl)), rfl, hnm⟩) (hw _ (List.mem_of_getElem? (i := 107) rfl)) (ty := (.object "java/util/Optional")) (by decide) rfl rfl (g := (mkF m 22 #[.val (.ref o1), .val (.ref a1), .val (.int p1), .val (.ref a2), .val (.ref a3)] [(.ref a3), (.ref o1)])) rfl rfl (hb hby dd_prog_17_method_1_22)
  refine OwnGoes.step (T' := T5) (g' := (mkF m 25 #[.val (.ref o1), .val (.ref a1), .val (.int p1), .val (.ref a2), .val (.ref a3)] [])) st5 ?_
  have Fw5 := F4_12.same W5
  have F5_13 := F4_9.wr W5
  have F5_14 := F4_10.other W5 (Or.inr (slot_ne (Or.inr (hw _ (List.mem_of_getElem? (i := 119) rfl))) (Or.inr (hw _ (List.mem_of_getElem? (i := 125) rfl))) (by decide) (t := (.object "java/lang/String")) (t' := (.object "java/util/Optional")) (by decide) (by decide)))
  have F5_15 := F4_11.other W5 (Or.inr (slot_ne (Or.inr (hw _ (List.mem_of_getElem? (i := 121) rfl))) (Or.inr (hw _ (List.mem_of_getElem? (i := 125) rfl))) (by decide) (t := .boolean) (t' := (.object "java/util/Optional")) (by decide) (by decide)))
  have F5_16 := Fw4.other W5 (Or.inr (slot_ne (Or.inr (hw _ (List.mem_of_getElem? (i := 123) rfl))) (Or.inr (hw _ (List.mem_of_getElem? (i := 125) rfl))) (by decide) (t := (.object "java/util/List")) (t' := (.object "java/util/Optional")) (by decide) (by decide)))
  have Ol5 := Ol4.wr W5 f5
  have K5 : Keep h0 h5 ([o1] : List Addr) := K4.wr W5 (Or.inl (List.mem_of_getElem? (i := 0) rfl))
  have N5 := Fr.snoc X5 N4 f5
  refine own_leave X5 hlk (v := none) (fun _ => rfl) (fun fs hr => X5.returnOut hx Bd.returns (hb hby dd_prog_17_method_1_25) hr) (by decide) (by decide) ?_
  show Q_eli Z o1 a1 p1 a2 a3 h0 n0 _ T5.heap _
  rw [e5]
  exact ⟨rfl, N5, K5, F5_13, F5_14, Fw5⟩
theorem ef_elp (m : MethodId) (x0 : Addr) (x1 : Addr) : entryFrame m #[(.ref x0), (.ref x1)] 2 = mkF m 0 #[.val (.ref x0), .val (.ref x1)] [] := by first | (simp [entryFrame, mkF, argsToLocals, Value.category]; done) | rfl
def Q_elp (Z : State) (o1 : Addr) (x1 : Addr) (r1 : Addr) (a3 : Addr) (h0 : Heap) (n0 : Nat) (v : Option Value) (h : Heap) (L : List Loc) : Prop := v = some (.ref a3) ∧ Fr n0 L ∧ h = h0
theorem dd_prog_17_method_3_0 : decode prog_17_method_3_code 0 = .ok (.aload_n 0, 1) := by decide +kernel
theorem dd_prog_17_method_3_1 : decode prog_17_method_3_code 1 = .ok (.getfield 21, 3) := by decide +kernel
theorem dd_prog_17_method_3_4 : decode prog_17_method_3_code 4 = .ok (.invokevirtual 31, 3) := by decide +kernel
theorem pd_15861835 : parseMethodDescriptor "()Z" = some ⟨[], some .boolean⟩ := by decide +kernel
theorem dd_prog_17_method_3_7 : decode prog_17_method_3_code 7 = .ok (.ifCond .eq 14, 3) := by decide +kernel
theorem dd_prog_17_method_3_10 : decode prog_17_method_3_code 10 = .ok (.aload_n 0, 1) := by decide +kernel
theorem dd_prog_17_method_3_11 : decode prog_17_method_3_code 11 = .ok (.getfield 21, 3) := by decide +kernel
theorem dd_prog_17_method_3_14 : decode prog_17_method_3_code 14 = .ok (.invokevirtual 37, 3) := by decide +kernel
theorem pd_83052929 : parseMethodDescriptor "()Ljava/lang/Object;" = some ⟨[], some (.object "java/lang/Object")⟩ := by decide +kernel
theorem dd_prog_17_method_3_17 : decode prog_17_method_3_code 17 = .ok (.checkcast 41, 3) := by decide +kernel
theorem dd_prog_17_method_3_20 : decode prog_17_method_3_code 20 = .ok (.areturn, 1) := by decide +kernel
set_option maxRecDepth 65536 in
set_option maxHeartbeats 40000000 in
theorem rm_elp (l : Launch) (Z : State) (a0 : Array Value) (hw : ∀ d ∈ tables_1, d.before a0 Z = true) (ws : List Jvm.Cond) (wG1 : Int32) (wO2 : Sta Z Z.heap "java/lang/String" "COMPACT_STRINGS" "Z" (.int wG1)) (wP5 : ¬ (wG1 = (0 : Int32))) (wG3 : Value) (wO4 : Sta Z Z.heap "jdk/internal/util/Preconditions" "SIOOBE_FORMATTER" "Ljava/util/function/BiFunction;" wG3) (wrG3 : wG3.isRef = true) (hstr : ∀ a ∈ Bundle.stringAtoms, a.before a0 Z = true) (wG5 : Addr) (wK5 : ClassId) (wO5 : Sta Z Z.heap "java/util/ArrayList" "DEFAULTCAPACITY_EMPTY_ELEMENTDATA" "[Ljava/lang/Object;" (.ref wG5)) (wV5 : Arv Z Z.heap wG5 wK5 (.object "java/lang/Object") (0 : Int32) [] .null) (wG6 : Addr) (wO6 : Sta Z Z.heap "java/util/Optional" "EMPTY" "Ljava/util/Optional;" (.ref wG6)) (wE6 : Exa Z Z.heap wG6 "java/util/Optional") (wF6 : Fld Z Z.heap wG6 "java/util/Optional" "value" "Ljava/lang/Object;" .null) (hEL : EW Z a0 consts_1) (h0 : Heap) (n0 : Nat) (X00 : Old Z n0 h0) (o1 : Addr) (x1 : Addr) (r1 : Addr) (a3 : Addr) (f0 : Fld Z h0 o1 "com/example/veilstone/veilstone/fhir/Definitions$Element" "reused" "Ljava/util/Optional;" (.ref r1)) (f1 : Exa Z h0 r1 "java/util/Optional") (f2 : Fld Z h0 r1 "java/util/Optional" "value" "Ljava/lang/Object;" (.ref a3)) (f3 : Exa Z h0 a3 "java/lang/String") :
    MetFree l (⟨"com/example/veilstone/veilstone/fhir/Definitions$Element", "elementsOf", "(Ljava/lang/String;)Ljava/lang/String;"⟩ : MethodName) (head1 (Jvm.Cond.code (⟨"com/example/veilstone/veilstone/fhir/Definitions$Element", "elementsOf", "(Ljava/lang/String;)Ljava/lang/String;"⟩ : MethodName) prog_17_method_3_code 2 (some (.object "java/lang/String")) :: ws) ({ frames := 1, cells := 0, slots := 0, locals := 12 } : Room)) (fun a U => a = #[(.ref o1), (.ref x1)] ∧ Z.Warmed39 U.vm ∧ U.heap = h0) (fun _ _ _ _ _ => True) (fun _ U o U' => ∃ v L, o = .returned v ∧ Q_elp Z o1 x1 r1 a3 h0 n0 v U'.heap L ∧ FrameEnd U o U' L ({ frames := 1, cells := 0, slots := 0, locals := 12 } : Room).cells ({ frames := 1, cells := 0, slots := 0, locals := 12 } : Room).slots) := by
  refine MetFree.of_bodySF (plainFor_of_name pn_64911028) hisR ?_
  intro p e s m args below meth c s₁ Bd hml0 hP hK
  obtain ⟨rfl, hZ, hh⟩ := hP
  have hx := Bd.exec
  have hby := Bd.bytes
  have hlk := Bd.notSynchronized
  have hml : c.maxLocals = 2 := hml0
  have hown : s.vm.findClass "com/example/veilstone/veilstone/fhir/Definitions$Element" = some m.cls := findClass_of_methodNamed Bd.named
  have hnm := (name_of_methodNamed Bd.named Bd.method).1
  have X0 : Stand p l e ({ frames := 1, cells := 0, slots := 0, locals := 12 } : Room) s m #[(.ref o1), (.ref x1)] below meth c s₁ [] 0 0 := Stand.of_body Bd
  have e0 : s₁.heap = h0 := by rw [← hh, Bd.state]; rfl
  have N0 := Fr.nil n0
  have Z0 : n0 ≤ h0.size := X00.1 ▸ X00.2.1
  have K0 : Keep h0 h0 ([] : List Addr) := Keep.refl _ _
  show OwnGoes p e below (fun o U' => ∃ v L, o = .returned v ∧ Q_elp Z o1 x1 r1 a3 h0 n0 v U'.heap L ∧ FrameEnd s o U' L ({ frames := 1, cells := 0, slots := 0, locals := 12 } : Room).cells ({ frames := 1, cells := 0, slots := 0, locals := 12 } : Room).slots) s₁ (entryFrame m #[(.ref o1), (.ref x1)] 2)
  refine OwnGoes.step (T' := s₁) (g' := (mkF m 0 #[.val (.ref o1), .val (.ref x1)] [])) (fun tgt kgo => castTop (ef_elp m o1 x1) kgo) ?_
  refine OwnGoes.step (T' := s₁) (g' := (mkF m 1 #[.val (.ref o1), .val (.ref x1)] [(.ref o1)])) (fun tgt kgo => ?_) ?_
  · show Steps p.tables e below (s₁.setTop (mkF m 0 #[.val (.ref o1), .val (.ref x1)] [])) tgt
    refine XS.aloadN X0.here hx rfl (hb hby dd_prog_17_method_3_0) rfl rfl ?_
    exact kgo
  obtain ⟨T1, X1, e1, st1⟩ := getF X0 hx hZ hown (host := "") (Or.inl (hw _ (List.mem_of_getElem? (i := 124) rfl))) Via.refl e0 f0 (g := (mkF m 1 #[.val (.ref o1), .val (.ref x1)] [(.ref o1)])) rfl rfl (hb hby dd_prog_17_method_3_1)
  refine OwnGoes.step (T' := T1) (g' := (mkF m 4 #[.val (.ref o1), .val (.ref x1)] [(.ref r1)])) st1 ?_
  obtain ⟨cq2, kq2, q2a, q2b, q2c⟩ := isOf (s := s) hZ e1 f1
  obtain ⟨_, _, ⟨T2, L2, k2, n2⟩, -, X2, ⟨Lc2, hQ2, l2, y2, z2⟩, st2⟩ := X1.virtualBack hx (y := (⟨"java/util/Optional", "isPresent", "()Z"⟩ : MethodName)) (z := (⟨"java/util/Optional", "isPresent", "()Z"⟩ : MethodName)) hown (mvT hZ (hw _ (List.mem_of_getElem? (i := 131) rfl))) (mvT hZ (hw _ (List.mem_of_getElem? (i := 132) rfl))) (notFace_of_selects (args := #[]) (mvT hZ (hw _ (List.mem_of_getElem? (i := 134) rfl)))) (mvT hZ (hw _ (List.mem_of_getElem? (i := 134) rfl))) (mvT hZ (hw _ (List.mem_of_getElem? (i := 133) rfl))) (by decide) (backOf (W := 0) (rm_isp1 l Z a0 hw [] wG1 wO2 wP5 wG3 wO4 wrG3 hstr wG5 wK5 wO5 wV5 wG6 wO6 wE6 wF6 hEL h0 n0 X00 r1 a3 f2) hZ (hw _ (List.mem_of_getElem? (i := 135) rfl)) (hw _ (List.mem_of_getElem? (i := 91) rfl)) (by decide) (by decide)) q2a q2c (g := (mkF m 4 #[.val (.ref o1), .val (.ref x1)] [(.ref r1)])) rfl (by rw [hml]; rfl) (Steps.refl _) (argsL := []) (rest := []) (lenOf pd_15861835 rfl) rfl (by show 2 * 0 + _ ≤ _; exact Nat.le_of_eq rfl) (hb hby dd_prog_17_method_3_4) (fun _ _ => ⟨rfl, e1, (by decide : 0 + 0 ≤ _), (by decide : 0 + 0 ≤ _)⟩)
  dsimp only [Pt.U, Pt.locs, Pt.cells, Pt.slots] at X2 l2 y2 z2 st2 hQ2
  subst l2 y2 z2
  obtain ⟨rfl, Nq2, eq2⟩ := hQ2
  refine OwnGoes.tr (T' := T2) (g' := (mkF m 7 #[.val (.ref o1), .val (.ref x1)] [(.int (1 : Int32))])) st2 ?_
  have N2 := Fr.app N0 Nq2
  refine OwnGoes.step (T' := T2) (g' := (mkF m 11 #[.val (.ref o1), .val (.ref x1)] [(.ref o1)])) (fun tgt kgo => ?_) ?_
  · show Steps p.tables e below (T2.setTop (mkF m 7 #[.val (.ref o1), .val (.ref x1)] [(.int (1 : Int32))])) tgt
    refine XS.ifNo X2.here hx rfl (hb hby dd_prog_17_method_3_7) rfl ((if0 _ _).trans (feq (by decide : ¬ ((1 : Int32) = (0 : Int32)))).1) ?_
    show Steps p.tables e below (T2.setTop (mkF m 10 #[.val (.ref o1), .val (.ref x1)] [])) tgt
    refine XS.aloadN X2.here hx rfl (hb hby dd_prog_17_method_3_10) rfl rfl ?_
    exact kgo
  obtain ⟨T3, X3, e3, st3⟩ := getF X2 hx hZ hown (host := "") (Or.inl (hw _ (List.mem_of_getElem? (i := 124) rfl))) Via.refl eq2 f0 (g := (mkF m 11 #[.val (.ref o1), .val (.ref x1)] [(.ref o1)])) rfl rfl (hb hby dd_prog_17_method_3_11)
  refine OwnGoes.step (T' := T3) (g' := (mkF m 14 #[.val (.ref o1), .val (.ref x1)] [(.ref r1)])) st3 ?_
  obtain ⟨cq4, kq4, q4a, q4b, q4c⟩ := isOf (s := s) hZ e3 f1
  obtain ⟨_, _, ⟨T4, L4, k4, n4⟩, -, X4, ⟨Lc4, hQ4, l4, y4, z4⟩, st4⟩ := X3.virtualBack hx (y := (⟨"java/util/Optional", "get", "()Ljava/lang/Object;"⟩ : MethodName)) (z := (⟨"java/util/Optional", "get", "()Ljava/lang/Object;"⟩ : MethodName)) hown (mvT hZ (hw _ (List.mem_of_getElem? (i := 136) rfl))) (mvT hZ (hw _ (List.mem_of_getElem? (i := 137) rfl))) (notFace_of_selects (args := #[]) (mvT hZ (hw _ (List.mem_of_getElem? (i := 139) rfl)))) (mvT hZ (hw _ (List.mem_of_getElem? (i := 139) rfl))) (mvT hZ (hw _ (List.mem_of_getElem? (i := 138) rfl))) (by decide) (backOf (W := 0) (rm_opget l Z a0 hw [] wG1 wO2 wP5 wG3 wO4 wrG3 hstr wG5 wK5 wO5 wV5 wG6 wO6 wE6 wF6 hEL h0 n0 X00 r1 a3 f2) hZ (hw _ (List.mem_of_getElem? (i := 140) rfl)) (hw _ (List.mem_of_getElem? (i := 91) rfl)) (by decide) (by decide)) q4a q4c (g := (mkF m 14 #[.val (.ref o1), .val (.ref x1)] [(.ref r1)])) rfl (by rw [hml]; rfl) (Steps.refl _) (argsL := []) (rest := []) (lenOf pd_83052929 rfl) rfl (by show 2 * 0 + _ ≤ _; exact Nat.le_of_eq rfl) (hb hby dd_prog_17_method_3_14) (fun _ _ => ⟨rfl, e3, (by decide : 0 + 0 ≤ _), (by decide : 0 + 0 ≤ _)⟩)
  dsimp only [Pt.U, Pt.locs, Pt.cells, Pt.slots] at X4 l4 y4 z4 st4 hQ4
  subst l4 y4 z4
  obtain ⟨rfl, Nq4, eq4⟩ := hQ4
  refine OwnGoes.tr (T' := T4) (g' := (mkF m 17 #[.val (.ref o1), .val (.ref x1)] [(.ref a3)])) st4 ?_
  have N4 := Fr.app N2 Nq4
  obtain ⟨T5, X5, e5, st5⟩ := castY X4 hx hZ hown (hw _ (List.mem_of_getElem? (i := 141) rfl)) eq4 (Ins.self f3) (g := (mkF m 17 #[.val (.ref o1), .val (.ref x1)] [(.ref a3)])) rfl rfl (hb hby dd_prog_17_method_3_17)
  refine OwnGoes.step (T' := T5) (g' := (mkF m 20 #[.val (.ref o1), .val (.ref x1)] [(.ref a3)])) st5 ?_
  have hret : ∀ fs, (∀ (f : JFrame) (acts : List Action), f.method = m → f.locked = none → f.entered = [] → (doReturn e (T5.setTop f) acts (some (.ref a3))).1 = T5.setFrames fs) → Steps p.tables e below (T5.setTop (mkF m 20 #[.val (.ref o1), .val (.ref x1)] [(.ref a3)])) (T5.setFrames fs) := by
    intro fs hr
    jvm_step X5.here [X5.here.top, hx, (hb hby dd_prog_17_method_3_20), X5.method', Bd.returns, Value.isRef, FieldType.isReference]
    first | (intro acts; rw [hr _ acts rfl rfl rfl]) | rw [hr _ _ rfl rfl rfl]
    exact Steps.refl _
  refine own_leave X5 hlk (v := some (.ref a3)) (fun h => by rw [Bd.returns] at h; cases h) hret (by decide) (by decide) ?_
  show Q_elp Z o1 x1 r1 a3 h0 n0 _ T5.heap _
  rw [e5]
  exact ⟨rfl, N4, rfl⟩
theorem ef_ela (m : MethodId) (x0 : Addr) (x1 : Addr) : entryFrame m #[(.ref x0), (.ref x1)] 2 = mkF m 0 #[.val (.ref x0), .val (.ref x1)] [] := by first | (simp [entryFrame, mkF, argsToLocals, Value.category]; done) | rfl
def Q_ela (Z : State) (o1 : Addr) (r1 : Addr) (a4 : Addr) (a1 : Addr) (t1 : Addr) (k1 : ClassId) (N1 : Int32) (vs1 : List Value) (cs1 : List Int32) (h0 : Heap) (n0 : Nat) (v : Option Value) (h : Heap) (L : List Loc) : Prop := ∃ (y : Addr), v = some (.ref y) ∧ Fr n0 L ∧ Keep h0 h ([] : List Addr) ∧ (((cs1 = ([66, 97, 99, 107, 98, 111, 110, 101, 69, 108, 101, 109, 101, 110, 116] : List Int32) ∨ cs1 = ([69, 108, 101, 109, 101, 110, 116] : List Int32)) ∧ y = a4) ∨ (¬ (cs1 = ([66, 97, 99, 107, 98, 111, 110, 101, 69, 108, 101, 109, 101, 110, 116] : List Int32) ∨ cs1 = ([69, 108, 101, 109, 101, 110, 116] : List Int32)) ∧ y = a1))
theorem dd_prog_17_method_3_21 : decode prog_17_method_3_code 21 = .ok (.aload_n 1, 1) := by decide +kernel
theorem dd_prog_17_method_3_22 : decode prog_17_method_3_code 22 = .ok (.ldc 43, 2) := by decide +kernel
theorem dd_prog_17_method_3_24 : decode prog_17_method_3_code 24 = .ok (.invokevirtual 45, 3) := by decide +kernel
theorem own_heq : ∀ d ∈ StrChars.Road.wordsEq, d ∈ tables_1 := by decide +kernel
theorem pd_81697300 : parseMethodDescriptor "(Ljava/lang/Object;)Z" = some ⟨[(.object "java/lang/Object")], some .boolean⟩ := by decide +kernel
theorem dd_prog_17_method_3_27 : decode prog_17_method_3_code 27 = .ok (.ifCond .ne 12, 3) := by decide +kernel
theorem dd_prog_17_method_3_39 : decode prog_17_method_3_code 39 = .ok (.aload_n 0, 1) := by decide +kernel
theorem dd_prog_17_method_3_40 : decode prog_17_method_3_code 40 = .ok (.getfield 7, 3) := by decide +kernel
theorem dd_prog_17_method_3_43 : decode prog_17_method_3_code 43 = .ok (.goto 4, 3) := by decide +kernel
theorem dd_prog_17_method_3_47 : decode prog_17_method_3_code 47 = .ok (.areturn, 1) := by decide +kernel
theorem dd_prog_17_method_3_30 : decode prog_17_method_3_code 30 = .ok (.aload_n 1, 1) := by decide +kernel
theorem dd_prog_17_method_3_31 : decode prog_17_method_3_code 31 = .ok (.ldc 49, 2) := by decide +kernel
theorem dd_prog_17_method_3_33 : decode prog_17_method_3_code 33 = .ok (.invokevirtual 45, 3) := by decide +kernel
theorem dd_prog_17_method_3_36 : decode prog_17_method_3_code 36 = .ok (.ifCond .eq 10, 3) := by decide +kernel
theorem dd_prog_17_method_3_46 : decode prog_17_method_3_code 46 = .ok (.aload_n 1, 1) := by decide +kernel
set_option maxRecDepth 65536 in
set_option maxHeartbeats 40000000 in
theorem rm_ela (l : Launch) (Z : State) (a0 : Array Value) (hw : ∀ d ∈ tables_1, d.before a0 Z = true) (ws : List Jvm.Cond) (wG1 : Int32) (wO2 : Sta Z Z.heap "java/lang/String" "COMPACT_STRINGS" "Z" (.int wG1)) (wP5 : ¬ (wG1 = (0 : Int32))) (wG3 : Value) (wO4 : Sta Z Z.heap "jdk/internal/util/Preconditions" "SIOOBE_FORMATTER" "Ljava/util/function/BiFunction;" wG3) (wrG3 : wG3.isRef = true) (hstr : ∀ a ∈ Bundle.stringAtoms, a.before a0 Z = true) (wG5 : Addr) (wK5 : ClassId) (wO5 : Sta Z Z.heap "java/util/ArrayList" "DEFAULTCAPACITY_EMPTY_ELEMENTDATA" "[Ljava/lang/Object;" (.ref wG5)) (wV5 : Arv Z Z.heap wG5 wK5 (.object "java/lang/Object") (0 : Int32) [] .null) (wG6 : Addr) (wO6 : Sta Z Z.heap "java/util/Optional" "EMPTY" "Ljava/util/Optional;" (.ref wG6)) (wE6 : Exa Z Z.heap wG6 "java/util/Optional") (wF6 : Fld Z Z.heap wG6 "java/util/Optional" "value" "Ljava/lang/Object;" .null) (hEL : EW Z a0 consts_1) (h0 : Heap) (n0 : Nat) (X00 : Old Z n0 h0) (o1 : Addr) (r1 : Addr) (a4 : Addr) (a1 : Addr) (t1 : Addr) (k1 : ClassId) (N1 : Int32) (vs1 : List Value) (cs1 : List Int32) (f0 : Fld Z h0 o1 "com/example/veilstone/veilstone/fhir/Definitions$Element" "reused" "Ljava/util/Optional;" (.ref r1)) (f1 : Exa Z h0 r1 "java/util/Optional") (f2 : Fld Z h0 r1 "java/util/Optional" "value" "Ljava/lang/Object;" .null) (f3 : Fld Z h0 o1 "com/example/veilstone/veilstone/fhir/Definitions$Element" "path" "Ljava/lang/String;" (.ref a4)) (f4 : Exa Z h0 a1 "java/lang/String") (f5 : Fld Z h0 a1 "java/lang/String" "value" "[B" (.ref t1)) (f6 : Fld Z h0 a1 "java/lang/String" "coder" "B" (.int (0 : Int32))) (f7 : Arv Z h0 t1 k1 .byte N1 vs1 (.int (0 : Int32))) (hos : OwnStr cs1 (0 : Int32) N1 vs1) :
    MetFree l (⟨"com/example/veilstone/veilstone/fhir/Definitions$Element", "elementsOf", "(Ljava/lang/String;)Ljava/lang/String;"⟩ : MethodName) (head1 (Jvm.Cond.code (⟨"com/example/veilstone/veilstone/fhir/Definitions$Element", "elementsOf", "(Ljava/lang/String;)Ljava/lang/String;"⟩ : MethodName) prog_17_method_3_code 2 (some (.object "java/lang/String")) :: ws) ({ frames := 2, cells := 4, slots := 96, locals := 28 } : Room)) (fun a U => a = #[(.ref o1), (.ref a1)] ∧ Z.Warmed39 U.vm ∧ U.heap = h0 ∧ CHv Z consts_1 U.vm h0) (fun _ _ _ _ _ => True) (fun _ U o U' => ∃ v L, o = .returned v ∧ Q_ela Z o1 r1 a4 a1 t1 k1 N1 vs1 cs1 h0 n0 v U'.heap L ∧ CHr Z consts_1 U.vm U.heap U'.vm U'.heap ∧ ReturnedEndW U o U' L ({ frames := 2, cells := 4, slots := 96, locals := 28 } : Room).cells ({ frames := 2, cells := 4, slots := 96, locals := 28 } : Room).slots) := by
  refine MetFree.of_bodySF (plainFor_of_name pn_64911028) hisR ?_
  intro p e s m args below meth c s₁ Bd hml0 hP hK
  obtain ⟨rfl, hZ, hh, hH⟩ := hP
  have hx := Bd.exec
  have hby := Bd.bytes
  have hlk := Bd.notSynchronized
  have hml : c.maxLocals = 2 := hml0
  have hown : s.vm.findClass "com/example/veilstone/veilstone/fhir/Definitions$Element" = some m.cls := findClass_of_methodNamed Bd.named
  have hnm := (name_of_methodNamed Bd.named Bd.method).1
  have X0 : Stand p l e ({ frames := 2, cells := 4, slots := 96, locals := 28 } : Room) (s.setVm s.vm) m #[(.ref o1), (.ref a1)] below meth c s₁ [] 0 0 := Stand.of_body Bd
  have e0 : s₁.heap = h0 := by rw [← hh, Bd.state]; rfl
  have N0 := Fr.nil n0
  have Z0 : n0 ≤ h0.size := X00.1 ▸ X00.2.1
  have K0 : Keep h0 h0 ([] : List Addr) := Keep.refl _ _
  have R0 : CHr Z consts_1 s.vm h0 s.vm h0 := CHr.refl hH
  have hS0 : s.Since s.vm h0.size := State.WarmedH.since (State.WarmedH.refl s) _
  have hk0 : h0.size ≤ h0.size := Nat.le_refl _
  show OwnGoes p e below (fun o U' => ∃ v L, o = .returned v ∧ Q_ela Z o1 r1 a4 a1 t1 k1 N1 vs1 cs1 h0 n0 v U'.heap L ∧ CHr Z consts_1 s.vm s.heap U'.vm U'.heap ∧ ReturnedEndW s o U' L ({ frames := 2, cells := 4, slots := 96, locals := 28 } : Room).cells ({ frames := 2, cells := 4, slots := 96, locals := 28 } : Room).slots) s₁ (entryFrame m #[(.ref o1), (.ref a1)] 2)
  refine OwnGoes.step (T' := s₁) (g' := (mkF m 0 #[.val (.ref o1), .val (.ref a1)] [])) (fun tgt kgo => castTop (ef_ela m o1 a1) kgo) ?_
  refine OwnGoes.step (T' := s₁) (g' := (mkF m 1 #[.val (.ref o1), .val (.ref a1)] [(.ref o1)])) (fun tgt kgo => ?_) ?_
  · show Steps p.tables e below (s₁.setTop (mkF m 0 #[.val (.ref o1), .val (.ref a1)] [])) tgt
    refine XS.aloadN X0.here hx rfl (hb hby dd_prog_17_method_3_0) rfl rfl ?_
    exact kgo
  obtain ⟨T1, X1, e1, st1⟩ := getF X0 hx hZ hown (host := "") (Or.inl (hw _ (List.mem_of_getElem? (i := 124) rfl))) Via.refl e0 f0 (g := (mkF m 1 #[.val (.ref o1), .val (.ref a1)] [(.ref o1)])) rfl rfl (hb hby dd_prog_17_method_3_1)
  refine OwnGoes.step (T' := T1) (g' := (mkF m 4 #[.val (.ref o1), .val (.ref a1)] [(.ref r1)])) st1 ?_
  obtain ⟨cq2, kq2, q2a, q2b, q2c⟩ := isOf (s := (s.setVm s.vm)) hZ e1 f1
  obtain ⟨_, _, ⟨T2, L2, k2, n2⟩, -, X2, ⟨Lc2, hQ2, l2, y2, z2⟩, st2⟩ := X1.virtualBack hx (y := (⟨"java/util/Optional", "isPresent", "()Z"⟩ : MethodName)) (z := (⟨"java/util/Optional", "isPresent", "()Z"⟩ : MethodName)) hown (mvT hZ (hw _ (List.mem_of_getElem? (i := 131) rfl))) (mvT hZ (hw _ (List.mem_of_getElem? (i := 132) rfl))) (notFace_of_selects (args := #[]) (mvT hZ (hw _ (List.mem_of_getElem? (i := 134) rfl)))) (mvT hZ (hw _ (List.mem_of_getElem? (i := 134) rfl))) (mvT hZ (hw _ (List.mem_of_getElem? (i := 133) rfl))) (by decide) (backOf (W := 0) (rm_isp0 l Z a0 hw [] wG1 wO2 wP5 wG3 wO4 wrG3 hstr wG5 wK5 wO5 wV5 wG6 wO6 wE6 wF6 hEL h0 n0 X00 r1 f2) hZ (hw _ (List.mem_of_getElem? (i := 135) rfl)) (hw _ (List.mem_of_getElem? (i := 91) rfl)) (by decide) (by decide)) q2a q2c (g := (mkF m 4 #[.val (.ref o1), .val (.ref a1)] [(.ref r1)])) rfl (by rw [hml]; rfl) (Steps.refl _) (argsL := []) (rest := []) (lenOf pd_15861835 rfl) rfl (by show 2 * 0 + _ ≤ _; exact Nat.le_of_eq rfl) (hb hby dd_prog_17_method_3_4) (fun _ _ => ⟨rfl, e1, (by decide : 0 + 0 ≤ _), (by decide : 0 + 0 ≤ _)⟩)
  dsimp only [Pt.U, Pt.locs, Pt.cells, Pt.slots] at X2 l2 y2 z2 st2 hQ2
  subst l2 y2 z2
  obtain ⟨rfl, Nq2, eq2⟩ := hQ2
  refine OwnGoes.tr (T' := T2) (g' := (mkF m 7 #[.val (.ref o1), .val (.ref a1)] [(.int (0 : Int32))])) st2 ?_
  have N2 := Fr.app N0 Nq2
  refine OwnGoes.step (T' := T2) (g' := (mkF m 22 #[.val (.ref o1), .val (.ref a1)] [(.ref a1)])) (fun tgt kgo => ?_) ?_
  · show Steps p.tables e below (T2.setTop (mkF m 7 #[.val (.ref o1), .val (.ref a1)] [(.int (0 : Int32))])) tgt
    refine XS.ifYes X2.here hx rfl (pc0 := 7) (pc' := 21) rfl (hb hby dd_prog_17_method_3_7) rfl ((if0 _ _).trans (teq (by decide : (0 : Int32) = (0 : Int32))).1) (by decide) (by decide) ?_
    show Steps p.tables e below (T2.setTop (mkF m 21 #[.val (.ref o1), .val (.ref a1)] [])) tgt
    refine XS.aloadN X2.here hx rfl (hb hby dd_prog_17_method_3_21) rfl rfl ?_
    exact kgo
  obtain ⟨b3, T3, h3, kk3, t3, k3, X3, e3, E3, hS3, hk3, hZ3, ho3, A3, Fc3, Fv3, V3, lt3, lu3, Rc3, Lt3, ns3, st3⟩ := ldcCH X2 hx hZ hown (hw _ (List.mem_of_getElem? (i := 151) rfl)) hstr eq2 hS0 hk0 hEL (by decide) R0.1 (vs := ((([66, 97, 99, 107, 98, 111, 110, 101, 69, 108, 101, 109, 101, 110, 116] : List Int32).map (fun c => c.toInt8.toInt32)).map Value.int)) (z := (15 : Int32)) (by decide +kernel) (by decide) (by decide +kernel) (g := (mkF m 22 #[.val (.ref o1), .val (.ref a1)] [(.ref a1)])) rfl (hb hby dd_prog_17_method_3_22) (n := 60) (by decide) (by decide) (by decide) (by decide)
  refine OwnGoes.step (T' := T3) (g' := (mkF m 24 #[.val (.ref o1), .val (.ref a1)] [(.ref b3), (.ref a1)])) st3 ?_
  have F3_1 := f0.ext E3
  have F3_2 := f1.ext E3
  have F3_3 := f2.ext E3
  have F3_4 := f3.ext E3
  have F3_5 := f4.ext E3
  have F3_6 := f5.ext E3
  have F3_7 := f6.ext E3
  have F3_8 := f7.ext E3
  have Ol3 := X00.ext E3
  have K3 : Keep h0 h3 ([] : List Addr) := K0.ext E3
  have R3 := R0.trans Rc3
  have hos3 : OwnStr ([66, 97, 99, 107, 98, 111, 110, 101, 69, 108, 101, 109, 101, 110, 116] : List Int32) (0 : Int32) (15 : Int32) ((([66, 97, 99, 107, 98, 111, 110, 101, 69, 108, 101, 109, 101, 110, 116] : List Int32).map (fun c => c.toInt8.toInt32)).map Value.int) := own_str_lat (n := 15) rfl (by decide) (by decide +kernel)
  obtain ⟨cq4, kq4, q4a, q4b, q4c⟩ := isOf (s := (s.setVm T3.vm)) hZ3 e3 F3_5
  obtain ⟨_, _, ⟨T4, L4, k4, n4⟩, -, X4, ⟨Lc4, hQ4, l4, y4, z4⟩, st4⟩ := X3.virtualBack hx (y := (⟨"java/lang/String", "equals", "(Ljava/lang/Object;)Z"⟩ : MethodName)) (z := (⟨"java/lang/String", "equals", "(Ljava/lang/Object;)Z"⟩ : MethodName)) ho3 (mvT hZ3 (hw _ (List.mem_of_getElem? (i := 152) rfl))) (mvT hZ3 (hw _ (List.mem_of_getElem? (i := 143) rfl))) (notFace_of_selects (args := #[]) (mvT hZ3 (hw _ (List.mem_of_getElem? (i := 145) rfl)))) (mvT hZ3 (hw _ (List.mem_of_getElem? (i := 145) rfl))) (mvT hZ3 (hw _ (List.mem_of_getElem? (i := 144) rfl))) (by decide) (StrChars.Road.eqW (W := 0) hZ3 (fun d hd => hw d (own_heq d hd)) (kI := 4) (hw _ (List.mem_of_getElem? (i := 5) rfl)) F3_5 F3_6 F3_7 F3_8 hos.1 hos.2.1 hos.2.2 A3 Fv3 Fc3 V3 hos3.1 hos3.2.1 hos3.2.2 (wO2.ext Ol3.2) wP5 (by decide) (by decide)) q4a q4c (g := (mkF m 24 #[.val (.ref o1), .val (.ref a1)] [(.ref b3), (.ref a1)])) rfl (by rw [hml]; rfl) (Steps.refl _) (argsL := [(.ref b3)]) (rest := []) (lenOf pd_81697300 rfl) rfl (by show 2 * 0 + _ ≤ _; exact Nat.le_of_eq rfl) (hb hby dd_prog_17_method_3_24) (fun _ _ => ⟨rfl, e3, (by decide : 2 + 0 ≤ _), (by decide : 64 + 0 ≤ _)⟩)
  dsimp only [Pt.U, Pt.locs, Pt.cells, Pt.slots] at X4 l4 y4 z4 st4 hQ4
  subst l4 y4 z4
  obtain ⟨hv4, rfl, eq4⟩ := hQ4
  obtain ⟨r_4, hr4, hd4⟩ : ∃ r : Int32, _ = some (Value.int r) ∧ ((r = 1 ∧ cs1 = ([66, 97, 99, 107, 98, 111, 110, 101, 69, 108, 101, 109, 101, 110, 116] : List Int32)) ∨ (r = 0 ∧ ¬ cs1 = ([66, 97, 99, 107, 98, 111, 110, 101, 69, 108, 101, 109, 101, 110, 116] : List Int32))) := by
    rcases hv4 with ⟨q1, q2⟩ | ⟨q1, q2⟩
    · exact ⟨1, q1, Or.inl ⟨rfl, q2⟩⟩
    · exact ⟨0, q1, Or.inr ⟨rfl, q2⟩⟩
  subst hr4
  refine OwnGoes.tr (T' := T4) (g' := (mkF m 27 #[.val (.ref o1), .val (.ref a1)] [(.int r_4)])) st4 ?_
  have N4 := Fr.app N2 (Fr.nil n0)
  rcases hd4 with ⟨rfl, q1⟩ | ⟨rfl, q1⟩
  · skip
    refine OwnGoes.step (T' := T4) (g' := (mkF m 40 #[.val (.ref o1), .val (.ref a1)] [(.ref o1)])) (fun tgt kgo => ?_) ?_
    · show Steps p.tables e below (T4.setTop (mkF m 27 #[.val (.ref o1), .val (.ref a1)] [(.int 1)])) tgt
      refine XS.ifYes X4.here hx rfl (pc0 := 27) (pc' := 39) rfl (hb hby dd_prog_17_method_3_27) rfl ((if0 _ _).trans (feq (by decide : ¬ ((1 : Int32) = (0 : Int32)))).2) (by decide) (by decide) ?_
      show Steps p.tables e below (T4.setTop (mkF m 39 #[.val (.ref o1), .val (.ref a1)] [])) tgt
      refine XS.aloadN X4.here hx rfl (hb hby dd_prog_17_method_3_39) rfl rfl ?_
      exact kgo
    obtain ⟨T5, X5, e5, st5⟩ := getF X4 hx hZ3 ho3 (host := "") (Or.inl (hw _ (List.mem_of_getElem? (i := 118) rfl))) Via.refl eq4 F3_4 (g := (mkF m 40 #[.val (.ref o1), .val (.ref a1)] [(.ref o1)])) rfl rfl (hb hby dd_prog_17_method_3_40)
    refine OwnGoes.step (T' := T5) (g' := (mkF m 43 #[.val (.ref o1), .val (.ref a1)] [(.ref a4)])) st5 ?_
    refine OwnGoes.step (T' := T5) (g' := (mkF m 47 #[.val (.ref o1), .val (.ref a1)] [(.ref a4)])) (fun tgt kgo => ?_) ?_
    · show Steps p.tables e below (T5.setTop (mkF m 43 #[.val (.ref o1), .val (.ref a1)] [(.ref a4)])) tgt
      refine XS.goto X5.here hx rfl (pc0 := 43) (pc' := 47) rfl (hb hby dd_prog_17_method_3_43) (by decide) (by decide) ?_
      exact kgo
    have hret : ∀ fs, (∀ (f : JFrame) (acts : List Action), f.method = m → f.locked = none → f.entered = [] → (doReturn e (T5.setTop f) acts (some (.ref a4))).1 = T5.setFrames fs) → Steps p.tables e below (T5.setTop (mkF m 47 #[.val (.ref o1), .val (.ref a1)] [(.ref a4)])) (T5.setFrames fs) := by
      intro fs hr
      jvm_step X5.here [X5.here.top, hx, (hb hby dd_prog_17_method_3_47), X5.method', Bd.returns, Value.isRef, FieldType.isReference]
      first | (intro acts; rw [hr _ acts rfl rfl rfl]) | rw [hr _ _ rfl rfl rfl]
      exact Steps.refl _
    refine own_leaveW (Z := Z) (EL := consts_1) X5 hS3 (e5 ▸ hk3) hlk (v := some (.ref a4)) (fun h => by rw [Bd.returns] at h; cases h) hret (by decide) (by decide) ?_ ?_
    · rw [hh, e5]
      exact R3.trans (CHv.at X5 hZ3 hEL R3.1)
    show Q_ela Z o1 r1 a4 a1 t1 k1 N1 vs1 cs1 h0 n0 _ T5.heap _
    rw [e5]
    exact ⟨a4, rfl, N4, K3, (Or.inl ⟨Or.inl q1, rfl⟩)⟩
  · skip
    refine OwnGoes.step (T' := T4) (g' := (mkF m 31 #[.val (.ref o1), .val (.ref a1)] [(.ref a1)])) (fun tgt kgo => ?_) ?_
    · show Steps p.tables e below (T4.setTop (mkF m 27 #[.val (.ref o1), .val (.ref a1)] [(.int 0)])) tgt
      refine XS.ifNo X4.here hx rfl (hb hby dd_prog_17_method_3_27) rfl ((if0 _ _).trans (teq rfl).2) ?_
      show Steps p.tables e below (T4.setTop (mkF m 30 #[.val (.ref o1), .val (.ref a1)] [])) tgt
      refine XS.aloadN X4.here hx rfl (hb hby dd_prog_17_method_3_30) rfl rfl ?_
      exact kgo
    obtain ⟨b7, T7, h7, kk7, t7, k7, X7, e7, E7, hS7, hk7, hZ7, ho7, A7, Fc7, Fv7, V7, lt7, lu7, Rc7, Lt7, ns7, st7⟩ := ldcCH X4 hx hZ3 ho3 (hw _ (List.mem_of_getElem? (i := 169) rfl)) hstr eq4 hS3 hk3 hEL (by decide) R3.1 (vs := ((([69, 108, 101, 109, 101, 110, 116] : List Int32).map (fun c => c.toInt8.toInt32)).map Value.int)) (z := (7 : Int32)) (by decide +kernel) (by decide) (by decide +kernel) (g := (mkF m 31 #[.val (.ref o1), .val (.ref a1)] [(.ref a1)])) rfl (hb hby dd_prog_17_method_3_31) (n := 28) (by decide) (by decide) (by decide) (by decide)
    refine OwnGoes.step (T' := T7) (g' := (mkF m 33 #[.val (.ref o1), .val (.ref a1)] [(.ref b7), (.ref a1)])) st7 ?_
    have F7_9 := F3_1.ext E7
    have F7_10 := F3_2.ext E7
    have F7_11 := F3_3.ext E7
    have F7_12 := F3_4.ext E7
    have F7_13 := F3_5.ext E7
    have F7_14 := F3_6.ext E7
    have F7_15 := F3_7.ext E7
    have F7_16 := F3_8.ext E7
    have F7_17 := A3.ext E7
    have F7_18 := Fc3.ext E7
    have F7_19 := Fv3.ext E7
    have F7_20 := V3.ext E7
    have Ol7 := Ol3.ext E7
    have K7 : Keep h0 h7 ([] : List Addr) := K3.ext E7
    have R7 := R3.trans Rc7
    have hos7 : OwnStr ([69, 108, 101, 109, 101, 110, 116] : List Int32) (0 : Int32) (7 : Int32) ((([69, 108, 101, 109, 101, 110, 116] : List Int32).map (fun c => c.toInt8.toInt32)).map Value.int) := own_str_lat (n := 7) rfl (by decide) (by decide +kernel)
    obtain ⟨cq8, kq8, q8a, q8b, q8c⟩ := isOf (s := (s.setVm T7.vm)) hZ7 e7 F7_13
    obtain ⟨_, _, ⟨T8, L8, k8, n8⟩, -, X8, ⟨Lc8, hQ8, l8, y8, z8⟩, st8⟩ := X7.virtualBack hx (y := (⟨"java/lang/String", "equals", "(Ljava/lang/Object;)Z"⟩ : MethodName)) (z := (⟨"java/lang/String", "equals", "(Ljava/lang/Object;)Z"⟩ : MethodName)) ho7 (mvT hZ7 (hw _ (List.mem_of_getElem? (i := 152) rfl))) (mvT hZ7 (hw _ (List.mem_of_getElem? (i := 143) rfl))) (notFace_of_selects (args := #[]) (mvT hZ7 (hw _ (List.mem_of_getElem? (i := 145) rfl)))) (mvT hZ7 (hw _ (List.mem_of_getElem? (i := 145) rfl))) (mvT hZ7 (hw _ (List.mem_of_getElem? (i := 144) rfl))) (by decide) (StrChars.Road.eqW (W := 0) hZ7 (fun d hd => hw d (own_heq d hd)) (kI := 4) (hw _ (List.mem_of_getElem? (i := 5) rfl)) F7_13 F7_14 F7_15 F7_16 hos.1 hos.2.1 hos.2.2 A7 Fv7 Fc7 V7 hos7.1 hos7.2.1 hos7.2.2 (wO2.ext Ol7.2) wP5 (by decide) (by decide)) q8a q8c (g := (mkF m 33 #[.val (.ref o1), .val (.ref a1)] [(.ref b7), (.ref a1)])) rfl (by rw [hml]; rfl) (Steps.refl _) (argsL := [(.ref b7)]) (rest := []) (lenOf pd_81697300 rfl) rfl (by show 2 * 0 + _ ≤ _; exact Nat.le_of_eq rfl) (hb hby dd_prog_17_method_3_33) (fun _ _ => ⟨rfl, e7, (by decide : 4 + 0 ≤ _), (by decide : 96 + 0 ≤ _)⟩)
    dsimp only [Pt.U, Pt.locs, Pt.cells, Pt.slots] at X8 l8 y8 z8 st8 hQ8
    subst l8 y8 z8
    obtain ⟨hv8, rfl, eq8⟩ := hQ8
    obtain ⟨r_8, hr8, hd8⟩ : ∃ r : Int32, _ = some (Value.int r) ∧ ((r = 1 ∧ cs1 = ([69, 108, 101, 109, 101, 110, 116] : List Int32)) ∨ (r = 0 ∧ ¬ cs1 = ([69, 108, 101, 109, 101, 110, 116] : List Int32))) := by
      rcases hv8 with ⟨q1, q2⟩ | ⟨q1, q2⟩
      · exact ⟨1, q1, Or.inl ⟨rfl, q2⟩⟩
      · exact ⟨0, q1, Or.inr ⟨rfl, q2⟩⟩
    subst hr8
    refine OwnGoes.tr (T' := T8) (g' := (mkF m 36 #[.val (.ref o1), .val (.ref a1)] [(.int r_8)])) st8 ?_
    have N8 := Fr.app N4 (Fr.nil n0)
    rcases hd8 with ⟨rfl, q2⟩ | ⟨rfl, q2⟩
    · skip
      refine OwnGoes.step (T' := T8) (g' := (mkF m 40 #[.val (.ref o1), .val (.ref a1)] [(.ref o1)])) (fun tgt kgo => ?_) ?_
      · show Steps p.tables e below (T8.setTop (mkF m 36 #[.val (.ref o1), .val (.ref a1)] [(.int 1)])) tgt
        refine XS.ifNo X8.here hx rfl (hb hby dd_prog_17_method_3_36) rfl ((if0 _ _).trans (feq (by decide : ¬ ((1 : Int32) = (0 : Int32)))).1) ?_
        show Steps p.tables e below (T8.setTop (mkF m 39 #[.val (.ref o1), .val (.ref a1)] [])) tgt
        refine XS.aloadN X8.here hx rfl (hb hby dd_prog_17_method_3_39) rfl rfl ?_
        exact kgo
      obtain ⟨T9, X9, e9, st9⟩ := getF X8 hx hZ7 ho7 (host := "") (Or.inl (hw _ (List.mem_of_getElem? (i := 118) rfl))) Via.refl eq8 F7_12 (g := (mkF m 40 #[.val (.ref o1), .val (.ref a1)] [(.ref o1)])) rfl rfl (hb hby dd_prog_17_method_3_40)
      refine OwnGoes.step (T' := T9) (g' := (mkF m 43 #[.val (.ref o1), .val (.ref a1)] [(.ref a4)])) st9 ?_
      refine OwnGoes.step (T' := T9) (g' := (mkF m 47 #[.val (.ref o1), .val (.ref a1)] [(.ref a4)])) (fun tgt kgo => ?_) ?_
      · show Steps p.tables e below (T9.setTop (mkF m 43 #[.val (.ref o1), .val (.ref a1)] [(.ref a4)])) tgt
        refine XS.goto X9.here hx rfl (pc0 := 43) (pc' := 47) rfl (hb hby dd_prog_17_method_3_43) (by decide) (by decide) ?_
        exact kgo
      have hret : ∀ fs, (∀ (f : JFrame) (acts : List Action), f.method = m → f.locked = none → f.entered = [] → (doReturn e (T9.setTop f) acts (some (.ref a4))).1 = T9.setFrames fs) → Steps p.tables e below (T9.setTop (mkF m 47 #[.val (.ref o1), .val (.ref a1)] [(.ref a4)])) (T9.setFrames fs) := by
        intro fs hr
        jvm_step X9.here [X9.here.top, hx, (hb hby dd_prog_17_method_3_47), X9.method', Bd.returns, Value.isRef, FieldType.isReference]
        first | (intro acts; rw [hr _ acts rfl rfl rfl]) | rw [hr _ _ rfl rfl rfl]
        exact Steps.refl _
      refine own_leaveW (Z := Z) (EL := consts_1) X9 hS7 (e9 ▸ hk7) hlk (v := some (.ref a4)) (fun h => by rw [Bd.returns] at h; cases h) hret (by decide) (by decide) ?_ ?_
      · rw [hh, e9]
        exact R7.trans (CHv.at X9 hZ7 hEL R7.1)
      show Q_ela Z o1 r1 a4 a1 t1 k1 N1 vs1 cs1 h0 n0 _ T9.heap _
      rw [e9]
      exact ⟨a4, rfl, N8, K7, (Or.inl ⟨Or.inr q2, rfl⟩)⟩
    · skip
      refine OwnGoes.step (T' := T8) (g' := (mkF m 47 #[.val (.ref o1), .val (.ref a1)] [(.ref a1)])) (fun tgt kgo => ?_) ?_
      · show Steps p.tables e below (T8.setTop (mkF m 36 #[.val (.ref o1), .val (.ref a1)] [(.int 0)])) tgt
        refine XS.ifYes X8.here hx rfl (pc0 := 36) (pc' := 46) rfl (hb hby dd_prog_17_method_3_36) rfl ((if0 _ _).trans (teq rfl).1) (by decide) (by decide) ?_
        show Steps p.tables e below (T8.setTop (mkF m 46 #[.val (.ref o1), .val (.ref a1)] [])) tgt
        refine XS.aloadN X8.here hx rfl (hb hby dd_prog_17_method_3_46) rfl rfl ?_
        exact kgo
      have hret : ∀ fs, (∀ (f : JFrame) (acts : List Action), f.method = m → f.locked = none → f.entered = [] → (doReturn e (T8.setTop f) acts (some (.ref a1))).1 = T8.setFrames fs) → Steps p.tables e below (T8.setTop (mkF m 47 #[.val (.ref o1), .val (.ref a1)] [(.ref a1)])) (T8.setFrames fs) := by
        intro fs hr
        jvm_step X8.here [X8.here.top, hx, (hb hby dd_prog_17_method_3_47), X8.method', Bd.returns, Value.isRef, FieldType.isReference]
        first | (intro acts; rw [hr _ acts rfl rfl rfl]) | rw [hr _ _ rfl rfl rfl]
        exact Steps.refl _
      refine own_leaveW (Z := Z) (EL := consts_1) X8 hS7 (eq8 ▸ hk7) hlk (v := some (.ref a1)) (fun h => by rw [Bd.returns] at h; cases h) hret (by decide) (by decide) ?_ ?_
      · rw [hh, eq8]
        exact R7.trans (CHv.at X8 hZ7 hEL R7.1)
      show Q_ela Z o1 r1 a4 a1 t1 k1 N1 vs1 cs1 h0 n0 _ T8.heap _
      rw [eq8]
      exact ⟨a1, rfl, N8, K7, (Or.inr ⟨fun z => z.elim q1 q2, rfl⟩)⟩
theorem ef_eqsame (m : MethodId) (x0 : Addr) (x1 : Addr) : entryFrame m #[(.ref x0), (.ref x1)] 3 = mkF m 0 #[.val (.ref x0), .val (.ref x1), .unset] [] := by first | (simp [entryFrame, mkF, argsToLocals, Value.category]; done) | rfl
def Q_eqsame (Z : State) (a1 : Addr) (h0 : Heap) (n0 : Nat) (v : Option Value) (h : Heap) (L : List Loc) : Prop := v = some (.int (1 : Int32)) ∧ Fr n0 L ∧ h = h0
theorem dd_jdk_42_method_66_0 : decode jdk_42_method_66_code 0 = .ok (.aload_n 0, 1) := by decide +kernel
theorem dd_jdk_42_method_66_1 : decode jdk_42_method_66_code 1 = .ok (.aload_n 1, 1) := by decide +kernel
theorem dd_jdk_42_method_66_2 : decode jdk_42_method_66_code 2 = .ok (.if_acmp .ne 5, 3) := by decide +kernel
theorem dd_jdk_42_method_66_5 : decode jdk_42_method_66_code 5 = .ok (.iconst 1, 1) := by decide +kernel
theorem dd_jdk_42_method_66_6 : decode jdk_42_method_66_code 6 = .ok (.ireturn, 1) := by decide +kernel
set_option maxRecDepth 65536 in
set_option maxHeartbeats 40000000 in
theorem rm_eqsame (l : Launch) (Z : State) (a0 : Array Value) (hw : ∀ d ∈ tables_1, d.before a0 Z = true) (ws : List Jvm.Cond) (wG1 : Int32) (wO2 : Sta Z Z.heap "java/lang/String" "COMPACT_STRINGS" "Z" (.int wG1)) (wP5 : ¬ (wG1 = (0 : Int32))) (wG3 : Value) (wO4 : Sta Z Z.heap "jdk/internal/util/Preconditions" "SIOOBE_FORMATTER" "Ljava/util/function/BiFunction;" wG3) (wrG3 : wG3.isRef = true) (hstr : ∀ a ∈ Bundle.stringAtoms, a.before a0 Z = true) (wG5 : Addr) (wK5 : ClassId) (wO5 : Sta Z Z.heap "java/util/ArrayList" "DEFAULTCAPACITY_EMPTY_ELEMENTDATA" "[Ljava/lang/Object;" (.ref wG5)) (wV5 : Arv Z Z.heap wG5 wK5 (.object "java/lang/Object") (0 : Int32) [] .null) (wG6 : Addr) (wO6 : Sta Z Z.heap "java/util/Optional" "EMPTY" "Ljava/util/Optional;" (.ref wG6)) (wE6 : Exa Z Z.heap wG6 "java/util/Optional") (wF6 : Fld Z Z.heap wG6 "java/util/Optional" "value" "Ljava/lang/Object;" .null) (hEL : EW Z a0 consts_1) (h0 : Heap) (n0 : Nat) (X00 : Old Z n0 h0) (a1 : Addr) :
    MetFree l (⟨"java/lang/String", "equals", "(Ljava/lang/Object;)Z"⟩ : MethodName) (head1 (Jvm.Cond.code (⟨"java/lang/String", "equals", "(Ljava/lang/Object;)Z"⟩ : MethodName) jdk_42_method_66_code 3 (some .boolean) :: ws) ({ frames := 0, cells := 0, slots := 0, locals := 0 } : Room)) (fun a U => a = #[(.ref a1), (.ref a1)] ∧ Z.Warmed39 U.vm ∧ U.heap = h0) (fun _ _ _ _ _ => True) (fun _ U o U' => ∃ v L, o = .returned v ∧ Q_eqsame Z a1 h0 n0 v U'.heap L ∧ FrameEnd U o U' L ({ frames := 0, cells := 0, slots := 0, locals := 0 } : Room).cells ({ frames := 0, cells := 0, slots := 0, locals := 0 } : Room).slots) := by
  refine MetFree.of_bodySF (plainFor_of_name pn_52039224) hisR ?_
  intro p e s m args below meth c s₁ Bd hml0 hP hK
  obtain ⟨rfl, hZ, hh⟩ := hP
  have hx := Bd.exec
  have hby := Bd.bytes
  have hlk := Bd.notSynchronized
  have hml : c.maxLocals = 3 := hml0
  have hown : s.vm.findClass "java/lang/String" = some m.cls := findClass_of_methodNamed Bd.named
  have hnm := (name_of_methodNamed Bd.named Bd.method).1
  have X0 : Stand p l e ({ frames := 0, cells := 0, slots := 0, locals := 0 } : Room) s m #[(.ref a1), (.ref a1)] below meth c s₁ [] 0 0 := Stand.of_body Bd
  have e0 : s₁.heap = h0 := by rw [← hh, Bd.state]; rfl
  have N0 := Fr.nil n0
  have Z0 : n0 ≤ h0.size := X00.1 ▸ X00.2.1
  have K0 : Keep h0 h0 ([] : List Addr) := Keep.refl _ _
  show OwnGoes p e below (fun o U' => ∃ v L, o = .returned v ∧ Q_eqsame Z a1 h0 n0 v U'.heap L ∧ FrameEnd s o U' L ({ frames := 0, cells := 0, slots := 0, locals := 0 } : Room).cells ({ frames := 0, cells := 0, slots := 0, locals := 0 } : Room).slots) s₁ (entryFrame m #[(.ref a1), (.ref a1)] 3)
  refine OwnGoes.step (T' := s₁) (g' := (mkF m 0 #[.val (.ref a1), .val (.ref a1), .unset] [])) (fun tgt kgo => castTop (ef_eqsame m a1 a1) kgo) ?_
  refine OwnGoes.step (T' := s₁) (g' := (mkF m 6 #[.val (.ref a1), .val (.ref a1), .unset] [(.int (1 : Int32))])) (fun tgt kgo => ?_) ?_
  · show Steps p.tables e below (s₁.setTop (mkF m 0 #[.val (.ref a1), .val (.ref a1), .unset] [])) tgt
    refine XS.aloadN X0.here hx rfl (hb hby dd_jdk_42_method_66_0) rfl rfl ?_
    show Steps p.tables e below (s₁.setTop (mkF m 1 #[.val (.ref a1), .val (.ref a1), .unset] [(.ref a1)])) tgt
    refine XS.aloadN X0.here hx rfl (hb hby dd_jdk_42_method_66_1) rfl rfl ?_
    show Steps p.tables e below (s₁.setTop (mkF m 2 #[.val (.ref a1), .val (.ref a1), .unset] [(.ref a1), (.ref a1)])) tgt
    refine Jvm.RoadKit.acmp (g := (mkF m 2 #[.val (.ref a1), .val (.ref a1), .unset] [(.ref a1), (.ref a1)])) X0 hx rfl rfl rfl (pc0 := 2) (pc' := 5) (same := true) rfl (hb hby dd_jdk_42_method_66_2) rfl (decide_eq_true rfl) (by decide) (by decide) ?_
    show Steps p.tables e below (s₁.setTop (mkF m 5 #[.val (.ref a1), .val (.ref a1), .unset] [])) tgt
    refine XS.iconst X0.here hx rfl (hb hby dd_jdk_42_method_66_5) ?_
    exact kgo
  refine own_leave X0 hlk (v := some (.int (1 : Int32))) (fun h => by rw [Bd.returns] at h; cases h) (fun fs hr => retN X0 hx (t := .boolean) Bd.returns (by simp) (hb hby dd_jdk_42_method_66_6) (by rw [(by decide : nar .boolean (1 : Int32) = (1 : Int32))]; exact hr)) (by decide) (by decide) ?_
  show Q_eqsame Z a1 h0 n0 _ s₁.heap _
  rw [e0]
  exact ⟨rfl, N0, rfl⟩
theorem own_and7 (x : Int32) : ¬ (x &&& (7 : Int32)) < 0 := by
  have h : (x &&& 7).toBitVec.toNat < 8 := by
    simp only [Int32.toBitVec_and, BitVec.toNat_and]
    exact Nat.lt_succ_of_le Nat.and_le_right
  rw [Int32.lt_iff_toInt_lt]
  have e : (x &&& 7).toInt = ((x &&& 7).toBitVec.toNat : Int) := BitVec.toInt_eq_toNat_of_lt (by omega)
  have e0 : (0 : Int32).toInt = 0 := rfl
  omega
theorem ef_law (m : MethodId) (x0 : Int32) (x1 : Int32) (x2 : Int32) (x3 : Int32) : entryFrame m #[(.int x0), (.int x1), (.int x2), (.int x3)] maxLocals = mkF m 0 #[.val (.int x0), .val (.int x1), .val (.int x2), .val (.int x3), .unset, .unset, .unset, .unset, .unset, .unset, .unset, .unset, .unset, .unset, .unset, .unset] [] := by first | (simp [entryFrame, mkF, argsToLocals, Value.category, maxLocals]; done) | rfl
def Q_law (Z : State) (p1 : Int32) (p2 : Int32) (p3 : Int32) (p4 : Int32) (h0 : Heap) (n0 : Nat) (v : Option Value) (h : Heap) (L : List Loc) : Prop := v = some (.int (1 : Int32)) ∧ Fr n0 L
theorem pd_28541291 : parseMethodDescriptor "(II)Ljava/lang/String;" = some ⟨[.int, .int], some (.object "java/lang/String")⟩ := by decide +kernel
theorem pd_63783651 : parseMethodDescriptor "(ILjava/lang/String;)Ljava/lang/String;" = some ⟨[.int, (.object "java/lang/String")], some (.object "java/lang/String")⟩ := by decide +kernel
theorem pd_37888928 : parseMethodDescriptor "()Ljava/util/Optional;" = some ⟨[], some (.object "java/util/Optional")⟩ := by decide +kernel
theorem pd_68560485 : parseMethodDescriptor "(Ljava/lang/String;ZLjava/util/List;Ljava/util/Optional;)V" = some ⟨[(.object "java/lang/String"), .boolean, (.object "java/util/List"), (.object "java/util/Optional")], none⟩ := by decide +kernel
theorem pd_3111897 : parseMethodDescriptor "(Ljava/lang/String;)Ljava/lang/String;" = some ⟨[(.object "java/lang/String")], some (.object "java/lang/String")⟩ := by decide +kernel
theorem pd_7324811 : parseMethodDescriptor "(Ljava/lang/Object;)Ljava/util/Optional;" = some ⟨[(.object "java/lang/Object")], some (.object "java/util/Optional")⟩ := by decide +kernel
set_option maxRecDepth 65536 in
set_option maxHeartbeats 40000000 in
theorem rm_law (l : Launch) (Z : State) (a0 : Array Value) (hw : ∀ d ∈ tables_1, d.before a0 Z = true) (ws : List Jvm.Cond) (wG1 : Int32) (wO2 : Sta Z Z.heap "java/lang/String" "COMPACT_STRINGS" "Z" (.int wG1)) (wP5 : ¬ (wG1 = (0 : Int32))) (wG3 : Value) (wO4 : Sta Z Z.heap "jdk/internal/util/Preconditions" "SIOOBE_FORMATTER" "Ljava/util/function/BiFunction;" wG3) (wrG3 : wG3.isRef = true) (hstr : ∀ a ∈ Bundle.stringAtoms, a.before a0 Z = true) (wG5 : Addr) (wK5 : ClassId) (wO5 : Sta Z Z.heap "java/util/ArrayList" "DEFAULTCAPACITY_EMPTY_ELEMENTDATA" "[Ljava/lang/Object;" (.ref wG5)) (wV5 : Arv Z Z.heap wG5 wK5 (.object "java/lang/Object") (0 : Int32) [] .null) (wG6 : Addr) (wO6 : Sta Z Z.heap "java/util/Optional" "EMPTY" "Ljava/util/Optional;" (.ref wG6)) (wE6 : Exa Z Z.heap wG6 "java/util/Optional") (wF6 : Fld Z Z.heap wG6 "java/util/Optional" "value" "Ljava/lang/Object;" .null) (hEL : EW Z a0 consts_1) (h0 : Heap) (n0 : Nat) (X00 : Old Z n0 h0) (p1 : Int32) (p2 : Int32) (p3 : Int32) (p4 : Int32) :
    MetFree l x (head1 (Jvm.Cond.code x code maxLocals ret :: ws) room_1) (fun a U => a = #[(.int p1), (.int p2), (.int p3), (.int p4)] ∧ Z.Warmed39 U.vm ∧ U.heap = h0 ∧ CHv Z consts_1 U.vm h0) (fun _ _ _ _ _ => True) (fun _ U o U' => ∃ v L, o = .returned v ∧ Q_law Z p1 p2 p3 p4 h0 n0 v U'.heap L ∧ CHr Z consts_1 U.vm U.heap U'.vm U'.heap ∧ ReturnedEndW U o U' L room_1.cells room_1.slots) := by
  refine MetFree.of_bodySF (plainFor_of_name pn_17081231) hisR ?_
  intro p e s m args below meth c s₁ Bd hml0 hP hK
  obtain ⟨rfl, hZ, hh, hH⟩ := hP
  have hx := Bd.exec
  have hby := Bd.bytes
  have hlk := Bd.notSynchronized
  have hml : c.maxLocals = 16 := hml0
  have hown : s.vm.findClass "com/example/veilstone/veilstone/fhir/ElementElementsOfPinLaw" = some m.cls := findClass_of_methodNamed Bd.named
  have hnm := (name_of_methodNamed Bd.named Bd.method).1
  have X0 : Stand p l e room_1 (s.setVm s.vm) m #[(.int p1), (.int p2), (.int p3), (.int p4)] below meth c s₁ [] 0 0 := Stand.of_body Bd
  have e0 : s₁.heap = h0 := by rw [← hh, Bd.state]; rfl
  have N0 := Fr.nil n0
  have Z0 : n0 ≤ h0.size := X00.1 ▸ X00.2.1
  have K0 : Keep h0 h0 ([] : List Addr) := Keep.refl _ _
  have R0 : CHr Z consts_1 s.vm h0 s.vm h0 := CHr.refl hH
  have hS0 : s.Since s.vm h0.size := State.WarmedH.since (State.WarmedH.refl s) _
  have hk0 : h0.size ≤ h0.size := Nat.le_refl _
  have fg_wG5_0 := wV5.ext X00.2
  have lt_wG5 : wG5 < n0 := X00.1 ▸ wV5.lt
  have fg_wG6_0 := wE6.ext X00.2
  have fg_wG6_1 := wF6.ext X00.2
  have lt_wG6 : wG6 < n0 := X00.1 ▸ wE6.lt
  show OwnGoes p e below (fun o U' => ∃ v L, o = .returned v ∧ Q_law Z p1 p2 p3 p4 h0 n0 v U'.heap L ∧ CHr Z consts_1 s.vm s.heap U'.vm U'.heap ∧ ReturnedEndW s o U' L room_1.cells room_1.slots) s₁ (entryFrame m #[(.int p1), (.int p2), (.int p3), (.int p4)] maxLocals)
  refine OwnGoes.step (T' := s₁) (g' := (mkF m 0 #[.val (.int p1), .val (.int p2), .val (.int p3), .val (.int p4), .unset, .unset, .unset, .unset, .unset, .unset, .unset, .unset, .unset, .unset, .unset, .unset] [])) (fun tgt kgo => castTop (ef_law m p1 p2 p3 p4) kgo) ?_
  refine OwnGoes.step (T' := s₁) (g' := (mkF m 3 #[.val (.int p1), .val (.int p2), .val (.int p3), .val (.int p4), .unset, .unset, .unset, .unset, .unset, .unset, .unset, .unset, .unset, .unset, .unset, .unset] [(.int (p4 &&& (1 : Int32)))])) (fun tgt kgo => ?_) ?_
  · show Steps p.tables e below (s₁.setTop (mkF m 0 #[.val (.int p1), .val (.int p2), .val (.int p3), .val (.int p4), .unset, .unset, .unset, .unset, .unset, .unset, .unset, .unset, .unset, .unset, .unset, .unset] [])) tgt
    refine XS.iloadN X0.here hx rfl (hb hby at_0) rfl ?_
    show Steps p.tables e below (s₁.setTop (mkF m 1 #[.val (.int p1), .val (.int p2), .val (.int p3), .val (.int p4), .unset, .unset, .unset, .unset, .unset, .unset, .unset, .unset, .unset, .unset, .unset, .unset] [(.int p4)])) tgt
    refine XS.iconst X0.here hx rfl (hb hby at_1) ?_
    show Steps p.tables e below (s₁.setTop (mkF m 2 #[.val (.int p1), .val (.int p2), .val (.int p3), .val (.int p4), .unset, .unset, .unset, .unset, .unset, .unset, .unset, .unset, .unset, .unset, .unset, .unset] [(.int (1 : Int32)), (.int p4)])) tgt
    refine XS.iand X0.here hx rfl (hb hby at_2) rfl ?_
    exact kgo
  by_cases cc1 : (p4 &&& (1 : Int32)) = (0 : Int32)
  · skip
    refine OwnGoes.step (T' := s₁) (g' := (mkF m 22 #[.val (.int p1), .val (.int p2), .val (.int p3), .val (.int p4), .val (.int (0 : Int32)), .unset, .unset, .unset, .unset, .unset, .unset, .unset, .unset, .unset, .unset, .unset] [(.int ((((p4.toUInt32 >>> ((1 : Int32) &&& 31).toUInt32).toInt32) &&& (7 : Int32)) % (5 : Int32))), (.int p1)])) (fun tgt kgo => ?_) ?_
    · show Steps p.tables e below (s₁.setTop (mkF m 3 #[.val (.int p1), .val (.int p2), .val (.int p3), .val (.int p4), .unset, .unset, .unset, .unset, .unset, .unset, .unset, .unset, .unset, .unset, .unset, .unset] [(.int (p4 &&& (1 : Int32)))])) tgt
      refine XS.ifYes X0.here hx rfl (pc0 := 3) (pc' := 10) rfl (hb hby at_3) rfl ((if0 _ _).trans (teq cc1).1) (by decide) (by decide) ?_
      show Steps p.tables e below (s₁.setTop (mkF m 10 #[.val (.int p1), .val (.int p2), .val (.int p3), .val (.int p4), .unset, .unset, .unset, .unset, .unset, .unset, .unset, .unset, .unset, .unset, .unset, .unset] [])) tgt
      refine XS.iconst X0.here hx rfl (hb hby at_10) ?_
      show Steps p.tables e below (s₁.setTop (mkF m 11 #[.val (.int p1), .val (.int p2), .val (.int p3), .val (.int p4), .unset, .unset, .unset, .unset, .unset, .unset, .unset, .unset, .unset, .unset, .unset, .unset] [(.int (0 : Int32))])) tgt
      refine XS.istore X0.here hx rfl (hb hby at_11) rfl (l' := #[.val (.int p1), .val (.int p2), .val (.int p3), .val (.int p4), .val (.int (0 : Int32)), .unset, .unset, .unset, .unset, .unset, .unset, .unset, .unset, .unset, .unset, .unset]) rfl ?_
      show Steps p.tables e below (s₁.setTop (mkF m 13 #[.val (.int p1), .val (.int p2), .val (.int p3), .val (.int p4), .val (.int (0 : Int32)), .unset, .unset, .unset, .unset, .unset, .unset, .unset, .unset, .unset, .unset, .unset] [])) tgt
      refine XS.iloadN X0.here hx rfl (hb hby at_13) rfl ?_
      show Steps p.tables e below (s₁.setTop (mkF m 14 #[.val (.int p1), .val (.int p2), .val (.int p3), .val (.int p4), .val (.int (0 : Int32)), .unset, .unset, .unset, .unset, .unset, .unset, .unset, .unset, .unset, .unset, .unset] [(.int p1)])) tgt
      refine XS.iloadN X0.here hx rfl (hb hby at_14) rfl ?_
      show Steps p.tables e below (s₁.setTop (mkF m 15 #[.val (.int p1), .val (.int p2), .val (.int p3), .val (.int p4), .val (.int (0 : Int32)), .unset, .unset, .unset, .unset, .unset, .unset, .unset, .unset, .unset, .unset, .unset] [(.int p4), (.int p1)])) tgt
      refine XS.iconst X0.here hx rfl (hb hby at_15) ?_
      show Steps p.tables e below (s₁.setTop (mkF m 16 #[.val (.int p1), .val (.int p2), .val (.int p3), .val (.int p4), .val (.int (0 : Int32)), .unset, .unset, .unset, .unset, .unset, .unset, .unset, .unset, .unset, .unset, .unset] [(.int (1 : Int32)), (.int p4), (.int p1)])) tgt
      refine XS.iushr X0.here hx rfl (hb hby at_16) rfl ?_
      show Steps p.tables e below (s₁.setTop (mkF m 17 #[.val (.int p1), .val (.int p2), .val (.int p3), .val (.int p4), .val (.int (0 : Int32)), .unset, .unset, .unset, .unset, .unset, .unset, .unset, .unset, .unset, .unset, .unset] [(.int ((p4.toUInt32 >>> ((1 : Int32) &&& 31).toUInt32).toInt32)), (.int p1)])) tgt
      refine XS.bipush X0.here hx rfl (hb hby at_17) ?_
      show Steps p.tables e below (s₁.setTop (mkF m 19 #[.val (.int p1), .val (.int p2), .val (.int p3), .val (.int p4), .val (.int (0 : Int32)), .unset, .unset, .unset, .unset, .unset, .unset, .unset, .unset, .unset, .unset, .unset] [(.int (7 : Int32)), (.int ((p4.toUInt32 >>> ((1 : Int32) &&& 31).toUInt32).toInt32)), (.int p1)])) tgt
      refine XS.iand X0.here hx rfl (hb hby at_19) rfl ?_
      show Steps p.tables e below (s₁.setTop (mkF m 20 #[.val (.int p1), .val (.int p2), .val (.int p3), .val (.int p4), .val (.int (0 : Int32)), .unset, .unset, .unset, .unset, .unset, .unset, .unset, .unset, .unset, .unset, .unset] [(.int (((p4.toUInt32 >>> ((1 : Int32) &&& 31).toUInt32).toInt32) &&& (7 : Int32))), (.int p1)])) tgt
      refine XS.iconst X0.here hx rfl (hb hby at_20) ?_
      show Steps p.tables e below (s₁.setTop (mkF m 21 #[.val (.int p1), .val (.int p2), .val (.int p3), .val (.int p4), .val (.int (0 : Int32)), .unset, .unset, .unset, .unset, .unset, .unset, .unset, .unset, .unset, .unset, .unset] [(.int (5 : Int32)), (.int (((p4.toUInt32 >>> ((1 : Int32) &&& 31).toUInt32).toInt32) &&& (7 : Int32))), (.int p1)])) tgt
      refine iremM X0 hx rfl (hb hby at_21) rfl (by decide) ?_
      exact kgo
    obtain ⟨_, _, ⟨T2, L2, k2, n2⟩, -, X2, Si2, Gr2, ⟨Lc2, hQ2, l2, y2, z2, Rc2⟩, st2⟩ := callSS X0 hx (y := (⟨"com/example/veilstone/veilstone/fhir/ElementElementsOfPinLaw", "str", "(II)Ljava/lang/String;"⟩ : MethodName)) hown (mvT hZ (hw _ (List.mem_of_getElem? (i := 0) rfl))) (mvT hZ (hw _ (List.mem_of_getElem? (i := 1) rfl))) (mvT hZ (hw _ (List.mem_of_getElem? (i := 2) rfl))) (mvT hZ (hw _ (List.mem_of_getElem? (i := 3) rfl))) (by decide) (backOfSH (W := 0) (rm_str l Z a0 hw [] wG1 wO2 wP5 wG3 wO4 wrG3 hstr wG5 wK5 wO5 wV5 wG6 wO6 wE6 wF6 hEL h0 n0 X00 p1 ((((p4.toUInt32 >>> ((1 : Int32) &&& 31).toUInt32).toInt32) &&& (7 : Int32)) % (5 : Int32))) hZ (hw _ (List.mem_of_getElem? (i := 3) rfl)) (hw _ (List.mem_of_getElem? (i := 2) rfl)) (by decide) (by decide) hEL R0.1) (g := (mkF m 22 #[.val (.int p1), .val (.int p2), .val (.int p3), .val (.int p4), .val (.int (0 : Int32)), .unset, .unset, .unset, .unset, .unset, .unset, .unset, .unset, .unset, .unset, .unset] [(.int ((((p4.toUInt32 >>> ((1 : Int32) &&& 31).toUInt32).toInt32) &&& (7 : Int32)) % (5 : Int32))), (.int p1)])) rfl (by rw [hml]; rfl) (argsL := [(.int p1), (.int ((((p4.toUInt32 >>> ((1 : Int32) &&& 31).toUInt32).toInt32) &&& (7 : Int32)) % (5 : Int32)))]) (rest := []) (lenOf pd_28541291 rfl) rfl (by show 2 * 0 + _ ≤ _; exact Nat.le_of_eq rfl) (hb hby at_22) (fun _ _ => ⟨rfl, e0, (by decide : 0 + 6 ≤ _), (by decide : 0 + 12 ≤ _)⟩)
    dsimp only [Pt.U, Pt.locs, Pt.cells, Pt.slots] at X2 l2 y2 z2 st2 hQ2 Si2 Gr2 Rc2
    subst l2 y2 z2
    obtain ⟨x_2, t_2, k_2, N_2, vs_2, cs_2, rfl, Nq2, Kq2, zq2_0, fq2_0, fq2_1, fq2_2, fq2_3, pq2_0, pq2_1⟩ := hQ2
    refine OwnGoes.tr (T' := T2) (g' := (mkF m 25 #[.val (.int p1), .val (.int p2), .val (.int p3), .val (.int p4), .val (.int (0 : Int32)), .unset, .unset, .unset, .unset, .unset, .unset, .unset, .unset, .unset, .unset, .unset] [(.ref x_2)])) st2 ?_
    have N2 := Fr.app N0 Nq2
    have ne_wG5_x_2 : wG5 ≠ x_2 := Nat.ne_of_lt (Nat.lt_of_lt_of_le fg_wG5_0.lt zq2_0)
    have ne_wG6_x_2 : wG6 ≠ x_2 := Nat.ne_of_lt (Nat.lt_of_lt_of_le fg_wG6_0.lt zq2_0)
    have g_x_2 : n0 ≤ x_2 := Nat.le_trans (Nat.le_trans Z0 K0.1) zq2_0
    have s_x_2 : h0.size ≤ x_2 := Nat.le_trans K0.1 zq2_0
    have gz2 : h0.size ≤ T2.heap.size := Rc2.2.1
    obtain ⟨X2, hS2, hZ2, ho2⟩ := rebS hS0 hk0 X2 Si2 gz2 hZ hown
    have F2_1 := fg_wG5_0.keep Kq2 nin0
    have F2_2 := fg_wG6_0.keep Kq2
    have F2_3 := fg_wG6_1.keep Kq2 nin0
    have Ol2 := X00.keep Kq2 all0
    have K2 : Keep h0 T2.heap ([] : List Addr) := K0.trans Kq2 all0
    have R2 := R0.trans Rc2
    refine OwnGoes.step (T' := T2) (g' := (mkF m 36 #[.val (.int p1), .val (.int p2), .val (.int p3), .val (.int p4), .val (.int (0 : Int32)), .val (.ref x_2), .unset, .unset, .unset, .unset, .unset, .unset, .unset, .unset, .unset, .unset] [(.int ((((p4.toUInt32 >>> ((4 : Int32) &&& 31).toUInt32).toInt32) &&& (7 : Int32)) % (5 : Int32))), (.int p2)])) (fun tgt kgo => ?_) ?_
    · show Steps p.tables e below (T2.setTop (mkF m 25 #[.val (.int p1), .val (.int p2), .val (.int p3), .val (.int p4), .val (.int (0 : Int32)), .unset, .unset, .unset, .unset, .unset, .unset, .unset, .unset, .unset, .unset, .unset] [(.ref x_2)])) tgt
      refine XS.astore X2.here hx rfl (hb hby at_25) rfl rfl (l' := #[.val (.int p1), .val (.int p2), .val (.int p3), .val (.int p4), .val (.int (0 : Int32)), .val (.ref x_2), .unset, .unset, .unset, .unset, .unset, .unset, .unset, .unset, .unset, .unset]) rfl ?_
      show Steps p.tables e below (T2.setTop (mkF m 27 #[.val (.int p1), .val (.int p2), .val (.int p3), .val (.int p4), .val (.int (0 : Int32)), .val (.ref x_2), .unset, .unset, .unset, .unset, .unset, .unset, .unset, .unset, .unset, .unset] [])) tgt
      refine XS.iloadN X2.here hx rfl (hb hby at_27) rfl ?_
      show Steps p.tables e below (T2.setTop (mkF m 28 #[.val (.int p1), .val (.int p2), .val (.int p3), .val (.int p4), .val (.int (0 : Int32)), .val (.ref x_2), .unset, .unset, .unset, .unset, .unset, .unset, .unset, .unset, .unset, .unset] [(.int p2)])) tgt
      refine XS.iloadN X2.here hx rfl (hb hby at_28) rfl ?_
      show Steps p.tables e below (T2.setTop (mkF m 29 #[.val (.int p1), .val (.int p2), .val (.int p3), .val (.int p4), .val (.int (0 : Int32)), .val (.ref x_2), .unset, .unset, .unset, .unset, .unset, .unset, .unset, .unset, .unset, .unset] [(.int p4), (.int p2)])) tgt
      refine XS.iconst X2.here hx rfl (hb hby at_29) ?_
      show Steps p.tables e below (T2.setTop (mkF m 30 #[.val (.int p1), .val (.int p2), .val (.int p3), .val (.int p4), .val (.int (0 : Int32)), .val (.ref x_2), .unset, .unset, .unset, .unset, .unset, .unset, .unset, .unset, .unset, .unset] [(.int (4 : Int32)), (.int p4), (.int p2)])) tgt
      refine XS.iushr X2.here hx rfl (hb hby at_30) rfl ?_
      show Steps p.tables e below (T2.setTop (mkF m 31 #[.val (.int p1), .val (.int p2), .val (.int p3), .val (.int p4), .val (.int (0 : Int32)), .val (.ref x_2), .unset, .unset, .unset, .unset, .unset, .unset, .unset, .unset, .unset, .unset] [(.int ((p4.toUInt32 >>> ((4 : Int32) &&& 31).toUInt32).toInt32)), (.int p2)])) tgt
      refine XS.bipush X2.here hx rfl (hb hby at_31) ?_
      show Steps p.tables e below (T2.setTop (mkF m 33 #[.val (.int p1), .val (.int p2), .val (.int p3), .val (.int p4), .val (.int (0 : Int32)), .val (.ref x_2), .unset, .unset, .unset, .unset, .unset, .unset, .unset, .unset, .unset, .unset] [(.int (7 : Int32)), (.int ((p4.toUInt32 >>> ((4 : Int32) &&& 31).toUInt32).toInt32)), (.int p2)])) tgt
      refine XS.iand X2.here hx rfl (hb hby at_33) rfl ?_
      show Steps p.tables e below (T2.setTop (mkF m 34 #[.val (.int p1), .val (.int p2), .val (.int p3), .val (.int p4), .val (.int (0 : Int32)), .val (.ref x_2), .unset, .unset, .unset, .unset, .unset, .unset, .unset, .unset, .unset, .unset] [(.int (((p4.toUInt32 >>> ((4 : Int32) &&& 31).toUInt32).toInt32) &&& (7 : Int32))), (.int p2)])) tgt
      refine XS.iconst X2.here hx rfl (hb hby at_34) ?_
      show Steps p.tables e below (T2.setTop (mkF m 35 #[.val (.int p1), .val (.int p2), .val (.int p3), .val (.int p4), .val (.int (0 : Int32)), .val (.ref x_2), .unset, .unset, .unset, .unset, .unset, .unset, .unset, .unset, .unset, .unset] [(.int (5 : Int32)), (.int (((p4.toUInt32 >>> ((4 : Int32) &&& 31).toUInt32).toInt32) &&& (7 : Int32))), (.int p2)])) tgt
      refine iremM X2 hx rfl (hb hby at_35) rfl (by decide) ?_
      exact kgo
    obtain ⟨_, _, ⟨T3, L3, k3, n3⟩, -, X3, Si3, Gr3, ⟨Lc3, hQ3, l3, y3, z3, Rc3⟩, st3⟩ := callSS X2 hx (y := (⟨"com/example/veilstone/veilstone/fhir/ElementElementsOfPinLaw", "str", "(II)Ljava/lang/String;"⟩ : MethodName)) ho2 (mvT hZ2 (hw _ (List.mem_of_getElem? (i := 0) rfl))) (mvT hZ2 (hw _ (List.mem_of_getElem? (i := 1) rfl))) (mvT hZ2 (hw _ (List.mem_of_getElem? (i := 2) rfl))) (mvT hZ2 (hw _ (List.mem_of_getElem? (i := 3) rfl))) (by decide) (backOfSH (W := 0) (rm_str l Z a0 hw [] wG1 wO2 wP5 wG3 wO4 wrG3 hstr wG5 wK5 wO5 wV5 wG6 wO6 wE6 wF6 hEL T2.heap n0 Ol2 p2 ((((p4.toUInt32 >>> ((4 : Int32) &&& 31).toUInt32).toInt32) &&& (7 : Int32)) % (5 : Int32))) hZ2 (hw _ (List.mem_of_getElem? (i := 3) rfl)) (hw _ (List.mem_of_getElem? (i := 2) rfl)) (by decide) (by decide) hEL R2.1) (g := (mkF m 36 #[.val (.int p1), .val (.int p2), .val (.int p3), .val (.int p4), .val (.int (0 : Int32)), .val (.ref x_2), .unset, .unset, .unset, .unset, .unset, .unset, .unset, .unset, .unset, .unset] [(.int ((((p4.toUInt32 >>> ((4 : Int32) &&& 31).toUInt32).toInt32) &&& (7 : Int32)) % (5 : Int32))), (.int p2)])) rfl (by rw [hml]; rfl) (argsL := [(.int p2), (.int ((((p4.toUInt32 >>> ((4 : Int32) &&& 31).toUInt32).toInt32) &&& (7 : Int32)) % (5 : Int32)))]) (rest := []) (lenOf pd_28541291 rfl) rfl (by show 2 * 0 + _ ≤ _; exact Nat.le_of_eq rfl) (hb hby at_36) (fun _ _ => ⟨rfl, rfl, (by decide : 6 + 6 ≤ _), (by decide : 12 + 12 ≤ _)⟩)
    dsimp only [Pt.U, Pt.locs, Pt.cells, Pt.slots] at X3 l3 y3 z3 st3 hQ3 Si3 Gr3 Rc3
    subst l3 y3 z3
    obtain ⟨x_3, t_3, k_3, N_3, vs_3, cs_3, rfl, Nq3, Kq3, zq3_0, fq3_0, fq3_1, fq3_2, fq3_3, pq3_0, pq3_1⟩ := hQ3
    refine OwnGoes.tr (T' := T3) (g' := (mkF m 39 #[.val (.int p1), .val (.int p2), .val (.int p3), .val (.int p4), .val (.int (0 : Int32)), .val (.ref x_2), .unset, .unset, .unset, .unset, .unset, .unset, .unset, .unset, .unset, .unset] [(.ref x_3)])) st3 ?_
    have N3 := Fr.app N2 Nq3
    have ne_wG5_x_3 : wG5 ≠ x_3 := Nat.ne_of_lt (Nat.lt_of_lt_of_le F2_1.lt zq3_0)
    have ne_wG6_x_3 : wG6 ≠ x_3 := Nat.ne_of_lt (Nat.lt_of_lt_of_le F2_2.lt zq3_0)
    have ne_x_2_x_3 : x_2 ≠ x_3 := Nat.ne_of_lt (Nat.lt_of_lt_of_le fq2_0.lt zq3_0)
    have ne_t_2_x_3 : t_2 ≠ x_3 := Nat.ne_of_lt (Nat.lt_of_lt_of_le fq2_3.lt zq3_0)
    have g_x_3 : n0 ≤ x_3 := Nat.le_trans (Nat.le_trans Z0 K2.1) zq3_0
    have s_x_3 : h0.size ≤ x_3 := Nat.le_trans K2.1 zq3_0
    have gz3 : T2.heap.size ≤ T3.heap.size := Rc3.2.1
    obtain ⟨X3, hS3, hZ3, ho3⟩ := rebS hS2 (Nat.le_refl _) X3 Si3 gz3 hZ2 ho2
    have F3_4 := F2_1.keep Kq3 nin0
    have F3_5 := F2_2.keep Kq3
    have F3_6 := F2_3.keep Kq3 nin0
    have F3_7 := fq2_0.keep Kq3
    have F3_8 := fq2_1.keep Kq3 nin0
    have F3_9 := fq2_2.keep Kq3 nin0
    have F3_10 := fq2_3.keep Kq3 nin0
    have Ol3 := Ol2.keep Kq3 all0
    have K3 : Keep h0 T3.heap ([] : List Addr) := K2.trans Kq3 all0
    have R3 := R2.trans Rc3
    refine OwnGoes.step (T' := T3) (g' := (mkF m 51 #[.val (.int p1), .val (.int p2), .val (.int p3), .val (.int p4), .val (.int (0 : Int32)), .val (.ref x_2), .val (.ref x_3), .unset, .unset, .unset, .unset, .unset, .unset, .unset, .unset, .unset] [(.int ((((p4.toUInt32 >>> ((7 : Int32) &&& 31).toUInt32).toInt32) &&& (7 : Int32)) % (5 : Int32))), (.int p3)])) (fun tgt kgo => ?_) ?_
    · show Steps p.tables e below (T3.setTop (mkF m 39 #[.val (.int p1), .val (.int p2), .val (.int p3), .val (.int p4), .val (.int (0 : Int32)), .val (.ref x_2), .unset, .unset, .unset, .unset, .unset, .unset, .unset, .unset, .unset, .unset] [(.ref x_3)])) tgt
      refine XS.astore X3.here hx rfl (hb hby at_39) rfl rfl (l' := #[.val (.int p1), .val (.int p2), .val (.int p3), .val (.int p4), .val (.int (0 : Int32)), .val (.ref x_2), .val (.ref x_3), .unset, .unset, .unset, .unset, .unset, .unset, .unset, .unset, .unset]) rfl ?_
      show Steps p.tables e below (T3.setTop (mkF m 41 #[.val (.int p1), .val (.int p2), .val (.int p3), .val (.int p4), .val (.int (0 : Int32)), .val (.ref x_2), .val (.ref x_3), .unset, .unset, .unset, .unset, .unset, .unset, .unset, .unset, .unset] [])) tgt
      refine XS.iloadN X3.here hx rfl (hb hby at_41) rfl ?_
      show Steps p.tables e below (T3.setTop (mkF m 42 #[.val (.int p1), .val (.int p2), .val (.int p3), .val (.int p4), .val (.int (0 : Int32)), .val (.ref x_2), .val (.ref x_3), .unset, .unset, .unset, .unset, .unset, .unset, .unset, .unset, .unset] [(.int p3)])) tgt
      refine XS.iloadN X3.here hx rfl (hb hby at_42) rfl ?_
      show Steps p.tables e below (T3.setTop (mkF m 43 #[.val (.int p1), .val (.int p2), .val (.int p3), .val (.int p4), .val (.int (0 : Int32)), .val (.ref x_2), .val (.ref x_3), .unset, .unset, .unset, .unset, .unset, .unset, .unset, .unset, .unset] [(.int p4), (.int p3)])) tgt
      refine XS.bipush X3.here hx rfl (hb hby at_43) ?_
      show Steps p.tables e below (T3.setTop (mkF m 45 #[.val (.int p1), .val (.int p2), .val (.int p3), .val (.int p4), .val (.int (0 : Int32)), .val (.ref x_2), .val (.ref x_3), .unset, .unset, .unset, .unset, .unset, .unset, .unset, .unset, .unset] [(.int (7 : Int32)), (.int p4), (.int p3)])) tgt
      refine XS.iushr X3.here hx rfl (hb hby at_45) rfl ?_
      show Steps p.tables e below (T3.setTop (mkF m 46 #[.val (.int p1), .val (.int p2), .val (.int p3), .val (.int p4), .val (.int (0 : Int32)), .val (.ref x_2), .val (.ref x_3), .unset, .unset, .unset, .unset, .unset, .unset, .unset, .unset, .unset] [(.int ((p4.toUInt32 >>> ((7 : Int32) &&& 31).toUInt32).toInt32)), (.int p3)])) tgt
      refine XS.bipush X3.here hx rfl (hb hby at_46) ?_
      show Steps p.tables e below (T3.setTop (mkF m 48 #[.val (.int p1), .val (.int p2), .val (.int p3), .val (.int p4), .val (.int (0 : Int32)), .val (.ref x_2), .val (.ref x_3), .unset, .unset, .unset, .unset, .unset, .unset, .unset, .unset, .unset] [(.int (7 : Int32)), (.int ((p4.toUInt32 >>> ((7 : Int32) &&& 31).toUInt32).toInt32)), (.int p3)])) tgt
      refine XS.iand X3.here hx rfl (hb hby at_48) rfl ?_
      show Steps p.tables e below (T3.setTop (mkF m 49 #[.val (.int p1), .val (.int p2), .val (.int p3), .val (.int p4), .val (.int (0 : Int32)), .val (.ref x_2), .val (.ref x_3), .unset, .unset, .unset, .unset, .unset, .unset, .unset, .unset, .unset] [(.int (((p4.toUInt32 >>> ((7 : Int32) &&& 31).toUInt32).toInt32) &&& (7 : Int32))), (.int p3)])) tgt
      refine XS.iconst X3.here hx rfl (hb hby at_49) ?_
      show Steps p.tables e below (T3.setTop (mkF m 50 #[.val (.int p1), .val (.int p2), .val (.int p3), .val (.int p4), .val (.int (0 : Int32)), .val (.ref x_2), .val (.ref x_3), .unset, .unset, .unset, .unset, .unset, .unset, .unset, .unset, .unset] [(.int (5 : Int32)), (.int (((p4.toUInt32 >>> ((7 : Int32) &&& 31).toUInt32).toInt32) &&& (7 : Int32))), (.int p3)])) tgt
      refine iremM X3 hx rfl (hb hby at_50) rfl (by decide) ?_
      exact kgo
    obtain ⟨_, _, ⟨T4, L4, k4, n4⟩, -, X4, Si4, Gr4, ⟨Lc4, hQ4, l4, y4, z4, Rc4⟩, st4⟩ := callSS X3 hx (y := (⟨"com/example/veilstone/veilstone/fhir/ElementElementsOfPinLaw", "str", "(II)Ljava/lang/String;"⟩ : MethodName)) ho3 (mvT hZ3 (hw _ (List.mem_of_getElem? (i := 0) rfl))) (mvT hZ3 (hw _ (List.mem_of_getElem? (i := 1) rfl))) (mvT hZ3 (hw _ (List.mem_of_getElem? (i := 2) rfl))) (mvT hZ3 (hw _ (List.mem_of_getElem? (i := 3) rfl))) (by decide) (backOfSH (W := 0) (rm_str l Z a0 hw [] wG1 wO2 wP5 wG3 wO4 wrG3 hstr wG5 wK5 wO5 wV5 wG6 wO6 wE6 wF6 hEL T3.heap n0 Ol3 p3 ((((p4.toUInt32 >>> ((7 : Int32) &&& 31).toUInt32).toInt32) &&& (7 : Int32)) % (5 : Int32))) hZ3 (hw _ (List.mem_of_getElem? (i := 3) rfl)) (hw _ (List.mem_of_getElem? (i := 2) rfl)) (by decide) (by decide) hEL R3.1) (g := (mkF m 51 #[.val (.int p1), .val (.int p2), .val (.int p3), .val (.int p4), .val (.int (0 : Int32)), .val (.ref x_2), .val (.ref x_3), .unset, .unset, .unset, .unset, .unset, .unset, .unset, .unset, .unset] [(.int ((((p4.toUInt32 >>> ((7 : Int32) &&& 31).toUInt32).toInt32) &&& (7 : Int32)) % (5 : Int32))), (.int p3)])) rfl (by rw [hml]; rfl) (argsL := [(.int p3), (.int ((((p4.toUInt32 >>> ((7 : Int32) &&& 31).toUInt32).toInt32) &&& (7 : Int32)) % (5 : Int32)))]) (rest := []) (lenOf pd_28541291 rfl) rfl (by show 2 * 0 + _ ≤ _; exact Nat.le_of_eq rfl) (hb hby at_51) (fun _ _ => ⟨rfl, rfl, (by decide : 12 + 6 ≤ _), (by decide : 24 + 12 ≤ _)⟩)
    dsimp only [Pt.U, Pt.locs, Pt.cells, Pt.slots] at X4 l4 y4 z4 st4 hQ4 Si4 Gr4 Rc4
    subst l4 y4 z4
    obtain ⟨x_4, t_4, k_4, N_4, vs_4, cs_4, rfl, Nq4, Kq4, zq4_0, fq4_0, fq4_1, fq4_2, fq4_3, pq4_0, pq4_1⟩ := hQ4
    refine OwnGoes.tr (T' := T4) (g' := (mkF m 54 #[.val (.int p1), .val (.int p2), .val (.int p3), .val (.int p4), .val (.int (0 : Int32)), .val (.ref x_2), .val (.ref x_3), .unset, .unset, .unset, .unset, .unset, .unset, .unset, .unset, .unset] [(.ref x_4)])) st4 ?_
    have N4 := Fr.app N3 Nq4
    have ne_wG5_x_4 : wG5 ≠ x_4 := Nat.ne_of_lt (Nat.lt_of_lt_of_le F3_4.lt zq4_0)
    have ne_wG6_x_4 : wG6 ≠ x_4 := Nat.ne_of_lt (Nat.lt_of_lt_of_le F3_5.lt zq4_0)
    have ne_x_2_x_4 : x_2 ≠ x_4 := Nat.ne_of_lt (Nat.lt_of_lt_of_le F3_7.lt zq4_0)
    have ne_t_2_x_4 : t_2 ≠ x_4 := Nat.ne_of_lt (Nat.lt_of_lt_of_le F3_10.lt zq4_0)
    have ne_x_3_x_4 : x_3 ≠ x_4 := Nat.ne_of_lt (Nat.lt_of_lt_of_le fq3_0.lt zq4_0)
    have ne_t_3_x_4 : t_3 ≠ x_4 := Nat.ne_of_lt (Nat.lt_of_lt_of_le fq3_3.lt zq4_0)
    have g_x_4 : n0 ≤ x_4 := Nat.le_trans (Nat.le_trans Z0 K3.1) zq4_0
    have s_x_4 : h0.size ≤ x_4 := Nat.le_trans K3.1 zq4_0
    have gz4 : T3.heap.size ≤ T4.heap.size := Rc4.2.1
    obtain ⟨X4, hS4, hZ4, ho4⟩ := rebS hS3 (Nat.le_refl _) X4 Si4 gz4 hZ3 ho3
    have F4_11 := F3_4.keep Kq4 nin0
    have F4_12 := F3_5.keep Kq4
    have F4_13 := F3_6.keep Kq4 nin0
    have F4_14 := F3_7.keep Kq4
    have F4_15 := F3_8.keep Kq4 nin0
    have F4_16 := F3_9.keep Kq4 nin0
    have F4_17 := F3_10.keep Kq4 nin0
    have F4_18 := fq3_0.keep Kq4
    have F4_19 := fq3_1.keep Kq4 nin0
    have F4_20 := fq3_2.keep Kq4 nin0
    have F4_21 := fq3_3.keep Kq4 nin0
    have Ol4 := Ol3.keep Kq4 all0
    have K4 : Keep h0 T4.heap ([] : List Addr) := K3.trans Kq4 all0
    have R4 := R3.trans Rc4
    refine OwnGoes.step (T' := T4) (g' := (mkF m 63 #[.val (.int p1), .val (.int p2), .val (.int p3), .val (.int p4), .val (.int (0 : Int32)), .val (.ref x_2), .val (.ref x_3), .val (.ref x_4), .unset, .unset, .unset, .unset, .unset, .unset, .unset, .unset] [(.int (((p4.toUInt32 >>> ((10 : Int32) &&& 31).toUInt32).toInt32) &&& (7 : Int32)))])) (fun tgt kgo => ?_) ?_
    · show Steps p.tables e below (T4.setTop (mkF m 54 #[.val (.int p1), .val (.int p2), .val (.int p3), .val (.int p4), .val (.int (0 : Int32)), .val (.ref x_2), .val (.ref x_3), .unset, .unset, .unset, .unset, .unset, .unset, .unset, .unset, .unset] [(.ref x_4)])) tgt
      refine XS.astore X4.here hx rfl (hb hby at_54) rfl rfl (l' := #[.val (.int p1), .val (.int p2), .val (.int p3), .val (.int p4), .val (.int (0 : Int32)), .val (.ref x_2), .val (.ref x_3), .val (.ref x_4), .unset, .unset, .unset, .unset, .unset, .unset, .unset, .unset]) rfl ?_
      show Steps p.tables e below (T4.setTop (mkF m 56 #[.val (.int p1), .val (.int p2), .val (.int p3), .val (.int p4), .val (.int (0 : Int32)), .val (.ref x_2), .val (.ref x_3), .val (.ref x_4), .unset, .unset, .unset, .unset, .unset, .unset, .unset, .unset] [])) tgt
      refine XS.iloadN X4.here hx rfl (hb hby at_56) rfl ?_
      show Steps p.tables e below (T4.setTop (mkF m 57 #[.val (.int p1), .val (.int p2), .val (.int p3), .val (.int p4), .val (.int (0 : Int32)), .val (.ref x_2), .val (.ref x_3), .val (.ref x_4), .unset, .unset, .unset, .unset, .unset, .unset, .unset, .unset] [(.int p4)])) tgt
      refine XS.bipush X4.here hx rfl (hb hby at_57) ?_
      show Steps p.tables e below (T4.setTop (mkF m 59 #[.val (.int p1), .val (.int p2), .val (.int p3), .val (.int p4), .val (.int (0 : Int32)), .val (.ref x_2), .val (.ref x_3), .val (.ref x_4), .unset, .unset, .unset, .unset, .unset, .unset, .unset, .unset] [(.int (10 : Int32)), (.int p4)])) tgt
      refine XS.iushr X4.here hx rfl (hb hby at_59) rfl ?_
      show Steps p.tables e below (T4.setTop (mkF m 60 #[.val (.int p1), .val (.int p2), .val (.int p3), .val (.int p4), .val (.int (0 : Int32)), .val (.ref x_2), .val (.ref x_3), .val (.ref x_4), .unset, .unset, .unset, .unset, .unset, .unset, .unset, .unset] [(.int ((p4.toUInt32 >>> ((10 : Int32) &&& 31).toUInt32).toInt32))])) tgt
      refine XS.bipush X4.here hx rfl (hb hby at_60) ?_
      show Steps p.tables e below (T4.setTop (mkF m 62 #[.val (.int p1), .val (.int p2), .val (.int p3), .val (.int p4), .val (.int (0 : Int32)), .val (.ref x_2), .val (.ref x_3), .val (.ref x_4), .unset, .unset, .unset, .unset, .unset, .unset, .unset, .unset] [(.int (7 : Int32)), (.int ((p4.toUInt32 >>> ((10 : Int32) &&& 31).toUInt32).toInt32))])) tgt
      refine XS.iand X4.here hx rfl (hb hby at_62) rfl ?_
      exact kgo
    obtain ⟨kk, hkk⟩ : ∃ z : Int32, (((p4.toUInt32 >>> ((10 : Int32) &&& 31).toUInt32).toInt32) &&& (7 : Int32)) = z := ⟨_, rfl⟩
    refine OwnGoes.step (T' := T4) (g' := (mkF m 63 #[.val (.int p1), .val (.int p2), .val (.int p3), .val (.int p4), .val (.int (0 : Int32)), .val (.ref x_2), .val (.ref x_3), .val (.ref x_4), .unset, .unset, .unset, .unset, .unset, .unset, .unset, .unset] [(.int kk)])) (fun tgt kgo => castTop (by rw [hkk]) kgo) ?_
    have hkk0 : ¬ kk < 0 := hkk ▸ own_and7 _
    refine OwnGoes.step (T' := T4) (g' := (mkF m 71 #[.val (.int p1), .val (.int p2), .val (.int p3), .val (.int p4), .val (.int (0 : Int32)), .val (.ref x_2), .val (.ref x_3), .val (.ref x_4), .val (.int kk), .unset, .unset, .unset, .unset, .unset, .unset, .unset] [(.int (((p4.toUInt32 >>> ((13 : Int32) &&& 31).toUInt32).toInt32) &&& (1 : Int32)))])) (fun tgt kgo => ?_) ?_
    · show Steps p.tables e below (T4.setTop (mkF m 63 #[.val (.int p1), .val (.int p2), .val (.int p3), .val (.int p4), .val (.int (0 : Int32)), .val (.ref x_2), .val (.ref x_3), .val (.ref x_4), .unset, .unset, .unset, .unset, .unset, .unset, .unset, .unset] [(.int kk)])) tgt
      refine XS.istore X4.here hx rfl (hb hby at_63) rfl (l' := #[.val (.int p1), .val (.int p2), .val (.int p3), .val (.int p4), .val (.int (0 : Int32)), .val (.ref x_2), .val (.ref x_3), .val (.ref x_4), .val (.int kk), .unset, .unset, .unset, .unset, .unset, .unset, .unset]) rfl ?_
      show Steps p.tables e below (T4.setTop (mkF m 65 #[.val (.int p1), .val (.int p2), .val (.int p3), .val (.int p4), .val (.int (0 : Int32)), .val (.ref x_2), .val (.ref x_3), .val (.ref x_4), .val (.int kk), .unset, .unset, .unset, .unset, .unset, .unset, .unset] [])) tgt
      refine XS.iloadN X4.here hx rfl (hb hby at_65) rfl ?_
      show Steps p.tables e below (T4.setTop (mkF m 66 #[.val (.int p1), .val (.int p2), .val (.int p3), .val (.int p4), .val (.int (0 : Int32)), .val (.ref x_2), .val (.ref x_3), .val (.ref x_4), .val (.int kk), .unset, .unset, .unset, .unset, .unset, .unset, .unset] [(.int p4)])) tgt
      refine XS.bipush X4.here hx rfl (hb hby at_66) ?_
      show Steps p.tables e below (T4.setTop (mkF m 68 #[.val (.int p1), .val (.int p2), .val (.int p3), .val (.int p4), .val (.int (0 : Int32)), .val (.ref x_2), .val (.ref x_3), .val (.ref x_4), .val (.int kk), .unset, .unset, .unset, .unset, .unset, .unset, .unset] [(.int (13 : Int32)), (.int p4)])) tgt
      refine XS.iushr X4.here hx rfl (hb hby at_68) rfl ?_
      show Steps p.tables e below (T4.setTop (mkF m 69 #[.val (.int p1), .val (.int p2), .val (.int p3), .val (.int p4), .val (.int (0 : Int32)), .val (.ref x_2), .val (.ref x_3), .val (.ref x_4), .val (.int kk), .unset, .unset, .unset, .unset, .unset, .unset, .unset] [(.int ((p4.toUInt32 >>> ((13 : Int32) &&& 31).toUInt32).toInt32))])) tgt
      refine XS.iconst X4.here hx rfl (hb hby at_69) ?_
      show Steps p.tables e below (T4.setTop (mkF m 70 #[.val (.int p1), .val (.int p2), .val (.int p3), .val (.int p4), .val (.int (0 : Int32)), .val (.ref x_2), .val (.ref x_3), .val (.ref x_4), .val (.int kk), .unset, .unset, .unset, .unset, .unset, .unset, .unset] [(.int (1 : Int32)), (.int ((p4.toUInt32 >>> ((13 : Int32) &&& 31).toUInt32).toInt32))])) tgt
      refine XS.iand X4.here hx rfl (hb hby at_70) rfl ?_
      exact kgo
    have hj5 : ∀ (z5_0 : Int32), OwnGoes p e below (fun o U' => ∃ v L, o = .returned v ∧ Q_law Z p1 p2 p3 p4 h0 n0 v U'.heap L ∧ CHr Z consts_1 s.vm s.heap U'.vm U'.heap ∧ ReturnedEndW s o U' L room_1.cells room_1.slots) T4 (mkF m 79 #[.val (.int p1), .val (.int p2), .val (.int p3), .val (.int p4), .val (.int (0 : Int32)), .val (.ref x_2), .val (.ref x_3), .val (.ref x_4), .val (.int kk), .unset, .unset, .unset, .unset, .unset, .unset, .unset] [(.int z5_0)]) := by
      intro z5_0
      refine OwnGoes.step (T' := T4) (g' := (mkF m 85 #[.val (.int p1), .val (.int p2), .val (.int p3), .val (.int p4), .val (.int (0 : Int32)), .val (.ref x_2), .val (.ref x_3), .val (.ref x_4), .val (.int kk), .val (.int z5_0), .unset, .unset, .unset, .unset, .unset, .unset] [(.ref x_3), (.int kk)])) (fun tgt kgo => ?_) ?_
      · show Steps p.tables e below (T4.setTop (mkF m 79 #[.val (.int p1), .val (.int p2), .val (.int p3), .val (.int p4), .val (.int (0 : Int32)), .val (.ref x_2), .val (.ref x_3), .val (.ref x_4), .val (.int kk), .unset, .unset, .unset, .unset, .unset, .unset, .unset] [(.int z5_0)])) tgt
        refine XS.istore X4.here hx rfl (hb hby at_79) rfl (l' := #[.val (.int p1), .val (.int p2), .val (.int p3), .val (.int p4), .val (.int (0 : Int32)), .val (.ref x_2), .val (.ref x_3), .val (.ref x_4), .val (.int kk), .val (.int z5_0), .unset, .unset, .unset, .unset, .unset, .unset]) rfl ?_
        show Steps p.tables e below (T4.setTop (mkF m 81 #[.val (.int p1), .val (.int p2), .val (.int p3), .val (.int p4), .val (.int (0 : Int32)), .val (.ref x_2), .val (.ref x_3), .val (.ref x_4), .val (.int kk), .val (.int z5_0), .unset, .unset, .unset, .unset, .unset, .unset] [])) tgt
        refine XS.iload X4.here hx rfl (hb hby at_81) rfl ?_
        show Steps p.tables e below (T4.setTop (mkF m 83 #[.val (.int p1), .val (.int p2), .val (.int p3), .val (.int p4), .val (.int (0 : Int32)), .val (.ref x_2), .val (.ref x_3), .val (.ref x_4), .val (.int kk), .val (.int z5_0), .unset, .unset, .unset, .unset, .unset, .unset] [(.int kk)])) tgt
        refine XS.aload X4.here hx rfl (hb hby at_83) rfl rfl ?_
        exact kgo
      obtain ⟨_, _, ⟨T6, L6, k6, n6⟩, -, X6, Si6, Gr6, ⟨Lc6, hQ6, l6, y6, z6, Rc6⟩, st6⟩ := callSS X4 hx (y := (⟨"com/example/veilstone/veilstone/fhir/ElementElementsOfPinLaw", "typeOf", "(ILjava/lang/String;)Ljava/lang/String;"⟩ : MethodName)) ho4 (mvT hZ4 (hw _ (List.mem_of_getElem? (i := 26) rfl))) (mvT hZ4 (hw _ (List.mem_of_getElem? (i := 27) rfl))) (mvT hZ4 (hw _ (List.mem_of_getElem? (i := 2) rfl))) (mvT hZ4 (hw _ (List.mem_of_getElem? (i := 28) rfl))) (by decide) (backOfSH (W := 0) (rm_typeOf l Z a0 hw [] wG1 wO2 wP5 wG3 wO4 wrG3 hstr wG5 wK5 wO5 wV5 wG6 wO6 wE6 wF6 hEL T4.heap n0 Ol4 kk x_3 t_3 k_3 N_3 vs_3 cs_3 F4_18 F4_19 F4_20 F4_21 pq3_0 pq3_1 hkk0) hZ4 (hw _ (List.mem_of_getElem? (i := 28) rfl)) (hw _ (List.mem_of_getElem? (i := 2) rfl)) (by decide) (by decide) hEL R4.1) (g := (mkF m 85 #[.val (.int p1), .val (.int p2), .val (.int p3), .val (.int p4), .val (.int (0 : Int32)), .val (.ref x_2), .val (.ref x_3), .val (.ref x_4), .val (.int kk), .val (.int z5_0), .unset, .unset, .unset, .unset, .unset, .unset] [(.ref x_3), (.int kk)])) rfl (by rw [hml]; rfl) (argsL := [(.int kk), (.ref x_3)]) (rest := []) (lenOf pd_63783651 rfl) rfl (by show 2 * 0 + _ ≤ _; exact Nat.le_of_eq rfl) (hb hby at_85) (fun _ _ => ⟨rfl, rfl, (by decide : 18 + 2 ≤ _), (by decide : 36 + 64 ≤ _)⟩)
      dsimp only [Pt.U, Pt.locs, Pt.cells, Pt.slots] at X6 l6 y6 z6 st6 hQ6 Si6 Gr6 Rc6
      subst l6 y6 z6
      obtain ⟨x_6, t_6, k_6, N_6, vs_6, cs_6, rfl, Nq6, Kq6, fq6_0, fq6_1, fq6_2, fq6_3, pq6_0, pq6_1⟩ := hQ6
      refine OwnGoes.tr (T' := T6) (g' := (mkF m 88 #[.val (.int p1), .val (.int p2), .val (.int p3), .val (.int p4), .val (.int (0 : Int32)), .val (.ref x_2), .val (.ref x_3), .val (.ref x_4), .val (.int kk), .val (.int z5_0), .unset, .unset, .unset, .unset, .unset, .unset] [(.ref x_6)])) st6 ?_
      have N6 := Fr.app N4 Nq6
      have gz6 : T4.heap.size ≤ T6.heap.size := Rc6.2.1
      obtain ⟨X6, hS6, hZ6, ho6⟩ := rebS hS4 (Nat.le_refl _) X6 Si6 gz6 hZ4 ho4
      have F6_22 := F4_11.keep Kq6 nin0
      have F6_23 := F4_12.keep Kq6
      have F6_24 := F4_13.keep Kq6 nin0
      have F6_25 := F4_14.keep Kq6
      have F6_26 := F4_15.keep Kq6 nin0
      have F6_27 := F4_16.keep Kq6 nin0
      have F6_28 := F4_17.keep Kq6 nin0
      have F6_29 := F4_18.keep Kq6
      have F6_30 := F4_19.keep Kq6 nin0
      have F6_31 := F4_20.keep Kq6 nin0
      have F6_32 := F4_21.keep Kq6 nin0
      have F6_33 := fq4_0.keep Kq6
      have F6_34 := fq4_1.keep Kq6 nin0
      have F6_35 := fq4_2.keep Kq6 nin0
      have F6_36 := fq4_3.keep Kq6 nin0
      have Ol6 := Ol4.keep Kq6 all0
      have K6 : Keep h0 T6.heap ([] : List Addr) := K4.trans Kq6 all0
      have R6 := R4.trans Rc6
      refine OwnGoes.step (T' := T6) (g' := (mkF m 90 #[.val (.int p1), .val (.int p2), .val (.int p3), .val (.int p4), .val (.int (0 : Int32)), .val (.ref x_2), .val (.ref x_3), .val (.ref x_4), .val (.int kk), .val (.int z5_0), .val (.ref x_6), .unset, .unset, .unset, .unset, .unset] [])) (fun tgt kgo => ?_) ?_
      · show Steps p.tables e below (T6.setTop (mkF m 88 #[.val (.int p1), .val (.int p2), .val (.int p3), .val (.int p4), .val (.int (0 : Int32)), .val (.ref x_2), .val (.ref x_3), .val (.ref x_4), .val (.int kk), .val (.int z5_0), .unset, .unset, .unset, .unset, .unset, .unset] [(.ref x_6)])) tgt
        refine XS.astore X6.here hx rfl (hb hby at_88) rfl rfl (l' := #[.val (.int p1), .val (.int p2), .val (.int p3), .val (.int p4), .val (.int (0 : Int32)), .val (.ref x_2), .val (.ref x_3), .val (.ref x_4), .val (.int kk), .val (.int z5_0), .val (.ref x_6), .unset, .unset, .unset, .unset, .unset]) rfl ?_
        exact kgo
      obtain ⟨T7, h7, X7, e7, E7, A7, D7, U7, st7⟩ := newO X6 hx hZ6 ho6 (hw _ (List.mem_of_getElem? (i := 30) rfl)) (hw _ (List.mem_of_getElem? (i := 31) rfl)) (hw _ (List.mem_of_getElem? (i := 32) rfl)) rfl (g := (mkF m 90 #[.val (.int p1), .val (.int p2), .val (.int p3), .val (.int p4), .val (.int (0 : Int32)), .val (.ref x_2), .val (.ref x_3), .val (.ref x_4), .val (.int kk), .val (.int z5_0), .val (.ref x_6), .unset, .unset, .unset, .unset, .unset] [])) rfl (hb hby at_90) (by decide) (by decide)
      obtain ⟨b7, g7⟩ : ∃ z, z = T6.heap.size := ⟨_, rfl⟩
      rw [← g7] at A7 D7 U7 st7
      refine OwnGoes.step (T' := T7) (g' := (mkF m 93 #[.val (.int p1), .val (.int p2), .val (.int p3), .val (.int p4), .val (.int (0 : Int32)), .val (.ref x_2), .val (.ref x_3), .val (.ref x_4), .val (.int kk), .val (.int z5_0), .val (.ref x_6), .unset, .unset, .unset, .unset, .unset] [(.ref b7)])) st7 ?_
      have ne_wG5_b7 : wG5 ≠ b7 := Nat.ne_of_lt (Nat.lt_of_lt_of_le F6_22.lt (Nat.le_of_eq g7.symm))
      have ne_wG6_b7 : wG6 ≠ b7 := Nat.ne_of_lt (Nat.lt_of_lt_of_le F6_23.lt (Nat.le_of_eq g7.symm))
      have ne_x_2_b7 : x_2 ≠ b7 := Nat.ne_of_lt (Nat.lt_of_lt_of_le F6_25.lt (Nat.le_of_eq g7.symm))
      have ne_t_2_b7 : t_2 ≠ b7 := Nat.ne_of_lt (Nat.lt_of_lt_of_le F6_28.lt (Nat.le_of_eq g7.symm))
      have ne_x_3_b7 : x_3 ≠ b7 := Nat.ne_of_lt (Nat.lt_of_lt_of_le F6_29.lt (Nat.le_of_eq g7.symm))
      have ne_t_3_b7 : t_3 ≠ b7 := Nat.ne_of_lt (Nat.lt_of_lt_of_le F6_32.lt (Nat.le_of_eq g7.symm))
      have ne_x_4_b7 : x_4 ≠ b7 := Nat.ne_of_lt (Nat.lt_of_lt_of_le F6_33.lt (Nat.le_of_eq g7.symm))
      have ne_t_4_b7 : t_4 ≠ b7 := Nat.ne_of_lt (Nat.lt_of_lt_of_le F6_36.lt (Nat.le_of_eq g7.symm))
      have ne_x_6_b7 : x_6 ≠ b7 := Nat.ne_of_lt (Nat.lt_of_lt_of_le fq6_0.lt (Nat.le_of_eq g7.symm))
      have ne_t_6_b7 : t_6 ≠ b7 := Nat.ne_of_lt (Nat.lt_of_lt_of_le fq6_3.lt (Nat.le_of_eq g7.symm))
      have g_b7 : n0 ≤ b7 := Nat.le_trans (Nat.le_trans Z0 K6.1) (Nat.le_of_eq g7.symm)
      have s_b7 : h0.size ≤ b7 := Nat.le_trans K6.1 (Nat.le_of_eq g7.symm)
      have Sf7 : Safe Z consts_1 T6.vm h7 b7 := Safe.ext E7 R6.1 (Safe.new (Nat.le_of_eq g7.symm))
      have F7_37 := F6_22.ext E7
      have F7_38 := F6_23.ext E7
      have F7_39 := F6_24.ext E7
      have F7_40 := F6_25.ext E7
      have F7_41 := F6_26.ext E7
      have F7_42 := F6_27.ext E7
      have F7_43 := F6_28.ext E7
      have F7_44 := F6_29.ext E7
      have F7_45 := F6_30.ext E7
      have F7_46 := F6_31.ext E7
      have F7_47 := F6_32.ext E7
      have F7_48 := F6_33.ext E7
      have F7_49 := F6_34.ext E7
      have F7_50 := F6_35.ext E7
      have F7_51 := F6_36.ext E7
      have F7_52 := fq6_0.ext E7
      have F7_53 := fq6_1.ext E7
      have F7_54 := fq6_2.ext E7
      have F7_55 := fq6_3.ext E7
      have Ol7 := Ol6.ext E7
      have K7 : Keep h0 h7 ([] : List Addr) := K6.ext E7
      have R7 := R6.trans (CHr.ext E7 R6.1)
      have hk7 := Nat.le_trans (Nat.le_refl _) E7.1
      have F7_56 : Fld Z h7 b7 "java/util/AbstractList" "modCount" "I" (.int (0 : Int32)) := D7 (Or.inl (hw _ (List.mem_of_getElem? (i := 50) rfl))) (ty := .int) (by decide)
      have F7_57 : Fld Z h7 b7 "java/util/ArrayList" "elementData" "[Ljava/lang/Object;" .null := D7 (Or.inl (hw _ (List.mem_of_getElem? (i := 53) rfl))) (ty := (.array (.object "java/lang/Object"))) (by decide)
      have F7_58 : Fld Z h7 b7 "java/util/ArrayList" "size" "I" (.int (0 : Int32)) := D7 (Or.inl (hw _ (List.mem_of_getElem? (i := 66) rfl))) (ty := .int) (by decide)
      refine OwnGoes.step (T' := T7) (g' := (mkF m 94 #[.val (.int p1), .val (.int p2), .val (.int p3), .val (.int p4), .val (.int (0 : Int32)), .val (.ref x_2), .val (.ref x_3), .val (.ref x_4), .val (.int kk), .val (.int z5_0), .val (.ref x_6), .unset, .unset, .unset, .unset, .unset] [(.ref b7), (.ref b7)])) (fun tgt kgo => ?_) ?_
      · show Steps p.tables e below (T7.setTop (mkF m 93 #[.val (.int p1), .val (.int p2), .val (.int p3), .val (.int p4), .val (.int (0 : Int32)), .val (.ref x_2), .val (.ref x_3), .val (.ref x_4), .val (.int kk), .val (.int z5_0), .val (.ref x_6), .unset, .unset, .unset, .unset, .unset] [(.ref b7)])) tgt
        refine XS.dup X7.here hx rfl (hb hby at_93) rfl rfl ?_
        exact kgo
      obtain ⟨_, _, ⟨T8, L8, k8, n8⟩, -, X8, ⟨Lc8, hQ8, l8, y8, z8⟩, st8⟩ := X7.specialBack hx (y := (⟨"java/util/ArrayList", "<init>", "()V"⟩ : MethodName)) rfl ho6 (mvT hZ6 (hw _ (List.mem_of_getElem? (i := 33) rfl))) (mvT hZ6 (hw _ (List.mem_of_getElem? (i := 34) rfl))) (mvT hZ6 (hw _ (List.mem_of_getElem? (i := 35) rfl))) (by decide) (backOf (W := 1) (rm_ali l Z a0 hw [] wG1 wO2 wP5 wG3 wO4 wrG3 hstr wG5 wK5 wO5 wV5 wG6 wO6 wE6 wF6 hEL h7 n0 Ol7 b7 (.int (0 : Int32)) .null A7 F7_56 F7_57 F7_58 g_b7) hZ6 (hw _ (List.mem_of_getElem? (i := 35) rfl)) (hw _ (List.mem_of_getElem? (i := 32) rfl)) (by decide) (by decide)) (g := (mkF m 94 #[.val (.int p1), .val (.int p2), .val (.int p3), .val (.int p4), .val (.int (0 : Int32)), .val (.ref x_2), .val (.ref x_3), .val (.ref x_4), .val (.int kk), .val (.int z5_0), .val (.ref x_6), .unset, .unset, .unset, .unset, .unset] [(.ref b7), (.ref b7)])) rfl (by rw [hml]; rfl) (Steps.refl _) (a := b7) (argsL := []) (rest := [(.ref b7)]) (lenOf pd_57008992 rfl) rfl (by show 2 * 0 + _ ≤ _; exact Nat.le_of_eq rfl) (hb hby at_94) (fun _ _ => ⟨rfl, e7, (by decide : 21 + 0 ≤ _), (by decide : 103 + 0 ≤ _)⟩)
      dsimp only [Pt.U, Pt.locs, Pt.cells, Pt.slots] at X8 l8 y8 z8 st8 hQ8
      subst l8 y8 z8
      obtain ⟨rfl, Nq8, Kq8, fq8_0, fq8_1, fq8_2, fq8_3⟩ := hQ8
      refine OwnGoes.tr (T' := T8) (g' := (mkF m 97 #[.val (.int p1), .val (.int p2), .val (.int p3), .val (.int p4), .val (.int (0 : Int32)), .val (.ref x_2), .val (.ref x_3), .val (.ref x_4), .val (.int kk), .val (.int z5_0), .val (.ref x_6), .unset, .unset, .unset, .unset, .unset] [(.ref b7)])) st8 ?_
      have N8 := Fr.app N6 Nq8
      have F8_59 := F7_37.keep Kq8 (ninS ne_wG5_b7 nin0)
      have F8_60 := F7_38.keep Kq8
      have F8_61 := F7_39.keep Kq8 (ninS ne_wG6_b7 nin0)
      have F8_62 := F7_40.keep Kq8
      have F8_63 := F7_41.keep Kq8 (ninS ne_x_2_b7 nin0)
      have F8_64 := F7_42.keep Kq8 (ninS ne_x_2_b7 nin0)
      have F8_65 := F7_43.keep Kq8 (ninS ne_t_2_b7 nin0)
      have F8_66 := F7_44.keep Kq8
      have F8_67 := F7_45.keep Kq8 (ninS ne_x_3_b7 nin0)
      have F8_68 := F7_46.keep Kq8 (ninS ne_x_3_b7 nin0)
      have F8_69 := F7_47.keep Kq8 (ninS ne_t_3_b7 nin0)
      have F8_70 := F7_48.keep Kq8
      have F8_71 := F7_49.keep Kq8 (ninS ne_x_4_b7 nin0)
      have F8_72 := F7_50.keep Kq8 (ninS ne_x_4_b7 nin0)
      have F8_73 := F7_51.keep Kq8 (ninS ne_t_4_b7 nin0)
      have F8_74 := F7_52.keep Kq8
      have F8_75 := F7_53.keep Kq8 (ninS ne_x_6_b7 nin0)
      have F8_76 := F7_54.keep Kq8 (ninS ne_x_6_b7 nin0)
      have F8_77 := F7_55.keep Kq8 (ninS ne_t_6_b7 nin0)
      have F8_78 := Safe.keep Kq8 (sfS Sf7 sf0) R7.1 Sf7
      have F8_79 := A7.keep Kq8
      have Ol8 := Ol7.keep Kq8 (allS g_b7 all0)
      have K8 : Keep h0 T8.heap ([] : List Addr) := K7.trans Kq8 (allS (Or.inr s_b7) all0)
      have R8 := R7.trans (CHr.keep Kq8 (sfS Sf7 sf0) R7.1)
      have hk8 := Nat.le_trans hk7 Kq8.1
      refine OwnGoes.step (T' := T8) (g' := (mkF m 103 #[.val (.int p1), .val (.int p2), .val (.int p3), .val (.int p4), .val (.int (0 : Int32)), .val (.ref x_2), .val (.ref x_3), .val (.ref x_4), .val (.int kk), .val (.int z5_0), .val (.ref x_6), .val (.ref b7), .unset, .unset, .unset, .unset] [(.ref x_6), (.ref b7)])) (fun tgt kgo => ?_) ?_
      · show Steps p.tables e below (T8.setTop (mkF m 97 #[.val (.int p1), .val (.int p2), .val (.int p3), .val (.int p4), .val (.int (0 : Int32)), .val (.ref x_2), .val (.ref x_3), .val (.ref x_4), .val (.int kk), .val (.int z5_0), .val (.ref x_6), .unset, .unset, .unset, .unset, .unset] [(.ref b7)])) tgt
        refine XS.astore X8.here hx rfl (hb hby at_97) rfl rfl (l' := #[.val (.int p1), .val (.int p2), .val (.int p3), .val (.int p4), .val (.int (0 : Int32)), .val (.ref x_2), .val (.ref x_3), .val (.ref x_4), .val (.int kk), .val (.int z5_0), .val (.ref x_6), .val (.ref b7), .unset, .unset, .unset, .unset]) rfl ?_
        show Steps p.tables e below (T8.setTop (mkF m 99 #[.val (.int p1), .val (.int p2), .val (.int p3), .val (.int p4), .val (.int (0 : Int32)), .val (.ref x_2), .val (.ref x_3), .val (.ref x_4), .val (.int kk), .val (.int z5_0), .val (.ref x_6), .val (.ref b7), .unset, .unset, .unset, .unset] [])) tgt
        refine XS.aload X8.here hx rfl (hb hby at_99) rfl rfl ?_
        show Steps p.tables e below (T8.setTop (mkF m 101 #[.val (.int p1), .val (.int p2), .val (.int p3), .val (.int p4), .val (.int (0 : Int32)), .val (.ref x_2), .val (.ref x_3), .val (.ref x_4), .val (.int kk), .val (.int z5_0), .val (.ref x_6), .val (.ref b7), .unset, .unset, .unset, .unset] [(.ref b7)])) tgt
        refine XS.aload X8.here hx rfl (hb hby at_101) rfl rfl ?_
        exact kgo
      obtain ⟨cq9, kq9, q9a, q9b, q9c⟩ := isOf (s := (s.setVm T6.vm)) hZ6 rfl fq8_0
      obtain ⟨_, _, ⟨T9, L9, k9, n9⟩, -, X9, ⟨Lc9, hQ9, l9, y9, z9⟩, st9⟩ := X8.interfaceBack hx (xi := (⟨"java/util/List", "add", "(Ljava/lang/Object;)Z"⟩ : MethodName)) (y := (⟨"java/util/ArrayList", "add", "(Ljava/lang/Object;)Z"⟩ : MethodName)) ho6 (mvT hZ6 (hw _ (List.mem_of_getElem? (i := 54) rfl))) (mvT hZ6 (hw _ (List.mem_of_getElem? (i := 55) rfl))) (mvT hZ6 (hw _ (List.mem_of_getElem? (i := 56) rfl))) (mvT hZ6 (hw _ (List.mem_of_getElem? (i := 57) rfl))) (mvT hZ6 (hw _ (List.mem_of_getElem? (i := 58) rfl))) (mvT hZ6 (hw _ (List.mem_of_getElem? (i := 59) rfl))) (mvT hZ6 (hw _ (List.mem_of_getElem? (i := 60) rfl))) (mvT hZ6 (hw _ (List.mem_of_getElem? (i := 61) rfl))) (by decide) (backOf (W := 0) (rm_add1 l Z a0 hw [] wG1 wO2 wP5 wG3 wO4 wrG3 hstr wG5 wK5 wO5 wV5 wG6 wO6 wE6 wF6 hEL T8.heap n0 Ol8 b7 x_6 fq8_0 fq8_1 fq8_2 fq8_3 g_b7 F8_74) hZ6 (hw _ (List.mem_of_getElem? (i := 62) rfl)) (hw _ (List.mem_of_getElem? (i := 32) rfl)) (by decide) (by decide)) q9a q9b q9c (g := (mkF m 103 #[.val (.int p1), .val (.int p2), .val (.int p3), .val (.int p4), .val (.int (0 : Int32)), .val (.ref x_2), .val (.ref x_3), .val (.ref x_4), .val (.int kk), .val (.int z5_0), .val (.ref x_6), .val (.ref b7), .unset, .unset, .unset, .unset] [(.ref x_6), (.ref b7)])) rfl (by rw [hml]; rfl) (Steps.refl _) (argsL := [(.ref x_6)]) (rest := []) (lenOf pd_81697300 rfl) rfl (by show 2 * 0 + _ ≤ _; exact Nat.le_of_eq rfl) (hb hby at_103) (fun _ _ => ⟨rfl, rfl, (by decide : 21 + 1 ≤ _), (by decide : 103 + 10 ≤ _)⟩)
      dsimp only [Pt.U, Pt.locs, Pt.cells, Pt.slots] at X9 l9 y9 z9 st9 hQ9
      subst l9 y9 z9
      obtain ⟨rfl, Nq9, Kq9, fq9_0⟩ := hQ9
      refine OwnGoes.tr (T' := T9) (g' := (mkF m 108 #[.val (.int p1), .val (.int p2), .val (.int p3), .val (.int p4), .val (.int (0 : Int32)), .val (.ref x_2), .val (.ref x_3), .val (.ref x_4), .val (.int kk), .val (.int z5_0), .val (.ref x_6), .val (.ref b7), .unset, .unset, .unset, .unset] [(.int (1 : Int32))])) st9 ?_
      have N9 := Fr.app N8 Nq9
      have F9_80 := F8_59.keep Kq9 (ninS ne_wG5_b7 nin0)
      have F9_81 := F8_60.keep Kq9
      have F9_82 := F8_61.keep Kq9 (ninS ne_wG6_b7 nin0)
      have F9_83 := F8_62.keep Kq9
      have F9_84 := F8_63.keep Kq9 (ninS ne_x_2_b7 nin0)
      have F9_85 := F8_64.keep Kq9 (ninS ne_x_2_b7 nin0)
      have F9_86 := F8_65.keep Kq9 (ninS ne_t_2_b7 nin0)
      have F9_87 := F8_66.keep Kq9
      have F9_88 := F8_67.keep Kq9 (ninS ne_x_3_b7 nin0)
      have F9_89 := F8_68.keep Kq9 (ninS ne_x_3_b7 nin0)
      have F9_90 := F8_69.keep Kq9 (ninS ne_t_3_b7 nin0)
      have F9_91 := F8_70.keep Kq9
      have F9_92 := F8_71.keep Kq9 (ninS ne_x_4_b7 nin0)
      have F9_93 := F8_72.keep Kq9 (ninS ne_x_4_b7 nin0)
      have F9_94 := F8_73.keep Kq9 (ninS ne_t_4_b7 nin0)
      have F9_95 := F8_74.keep Kq9
      have F9_96 := F8_75.keep Kq9 (ninS ne_x_6_b7 nin0)
      have F9_97 := F8_76.keep Kq9 (ninS ne_x_6_b7 nin0)
      have F9_98 := F8_77.keep Kq9 (ninS ne_t_6_b7 nin0)
      have F9_99 := Safe.keep Kq9 (sfS F8_78 sf0) R8.1 F8_78
      have F9_100 := fq8_0.keep Kq9
      have Ol9 := Ol8.keep Kq9 (allS g_b7 all0)
      have K9 : Keep h0 T9.heap ([] : List Addr) := K8.trans Kq9 (allS (Or.inr s_b7) all0)
      have R9 := R8.trans (CHr.keep Kq9 (sfS F8_78 sf0) R8.1)
      have hk9 := Nat.le_trans hk8 Kq9.1
      refine OwnGoes.step (T' := T9) (g' := (mkF m 122 #[.val (.int p1), .val (.int p2), .val (.int p3), .val (.int p4), .val (.int (0 : Int32)), .val (.ref x_2), .val (.ref x_3), .val (.ref x_4), .val (.int kk), .val (.int z5_0), .val (.ref x_6), .val (.ref b7), .unset, .unset, .unset, .unset] [])) (fun tgt kgo => ?_) ?_
      · show Steps p.tables e below (T9.setTop (mkF m 108 #[.val (.int p1), .val (.int p2), .val (.int p3), .val (.int p4), .val (.int (0 : Int32)), .val (.ref x_2), .val (.ref x_3), .val (.ref x_4), .val (.int kk), .val (.int z5_0), .val (.ref x_6), .val (.ref b7), .unset, .unset, .unset, .unset] [(.int (1 : Int32))])) tgt
        refine XS.pop X9.here hx rfl (hb hby at_108) rfl rfl ?_
        show Steps p.tables e below (T9.setTop (mkF m 109 #[.val (.int p1), .val (.int p2), .val (.int p3), .val (.int p4), .val (.int (0 : Int32)), .val (.ref x_2), .val (.ref x_3), .val (.ref x_4), .val (.int kk), .val (.int z5_0), .val (.ref x_6), .val (.ref b7), .unset, .unset, .unset, .unset] [])) tgt
        refine XS.iload X9.here hx rfl (hb hby at_109) rfl ?_
        show Steps p.tables e below (T9.setTop (mkF m 111 #[.val (.int p1), .val (.int p2), .val (.int p3), .val (.int p4), .val (.int (0 : Int32)), .val (.ref x_2), .val (.ref x_3), .val (.ref x_4), .val (.int kk), .val (.int z5_0), .val (.ref x_6), .val (.ref b7), .unset, .unset, .unset, .unset] [(.int (0 : Int32))])) tgt
        refine XS.ifYes X9.here hx rfl (pc0 := 111) (pc' := 122) rfl (hb hby at_111) rfl ((if0 _ _).trans (teq (by decide : (0 : Int32) = (0 : Int32))).1) (by decide) (by decide) ?_
        exact kgo
      obtain ⟨_, _, ⟨T10, L10, k10, n10⟩, -, X10, ⟨Lc10, hQ10, l10, y10, z10⟩, st10⟩ := Jvm.LawKit.callS X9 hx (y := (⟨"java/util/Optional", "empty", "()Ljava/util/Optional;"⟩ : MethodName)) ho6 (mvT hZ6 (hw _ (List.mem_of_getElem? (i := 147) rfl))) (mvT hZ6 (hw _ (List.mem_of_getElem? (i := 148) rfl))) (mvT hZ6 (hw _ (List.mem_of_getElem? (i := 91) rfl))) (mvT hZ6 (hw _ (List.mem_of_getElem? (i := 149) rfl))) (by decide) (backOf (W := 0) (rm_ope l Z a0 hw [] wG1 wO2 wP5 wG3 wO4 wrG3 hstr wG5 wK5 wO5 wV5 wG6 wO6 wE6 wF6 hEL T9.heap n0 Ol9 ) hZ6 (hw _ (List.mem_of_getElem? (i := 149) rfl)) (hw _ (List.mem_of_getElem? (i := 91) rfl)) (by decide) (by decide)) (g := (mkF m 122 #[.val (.int p1), .val (.int p2), .val (.int p3), .val (.int p4), .val (.int (0 : Int32)), .val (.ref x_2), .val (.ref x_3), .val (.ref x_4), .val (.int kk), .val (.int z5_0), .val (.ref x_6), .val (.ref b7), .unset, .unset, .unset, .unset] [])) rfl (by rw [hml]; rfl) (argsL := []) (rest := []) (lenOf pd_37888928 rfl) rfl (by show 2 * 0 + _ ≤ _; exact Nat.le_of_eq rfl) (hb hby at_122) (fun _ _ => ⟨rfl, rfl, (by decide : 22 + 0 ≤ _), (by decide : 113 + 0 ≤ _)⟩)
      dsimp only [Pt.U, Pt.locs, Pt.cells, Pt.slots] at X10 l10 y10 z10 st10 hQ10
      subst l10 y10 z10
      obtain ⟨rfl, Nq10, eq10⟩ := hQ10
      refine OwnGoes.step (T' := T10) (g' := (mkF m 125 #[.val (.int p1), .val (.int p2), .val (.int p3), .val (.int p4), .val (.int (0 : Int32)), .val (.ref x_2), .val (.ref x_3), .val (.ref x_4), .val (.int kk), .val (.int z5_0), .val (.ref x_6), .val (.ref b7), .unset, .unset, .unset, .unset] [(.ref wG6)])) st10 ?_
      have N10 := Fr.app N9 Nq10
      refine OwnGoes.step (T' := T10) (g' := (mkF m 127 #[.val (.int p1), .val (.int p2), .val (.int p3), .val (.int p4), .val (.int (0 : Int32)), .val (.ref x_2), .val (.ref x_3), .val (.ref x_4), .val (.int kk), .val (.int z5_0), .val (.ref x_6), .val (.ref b7), .val (.ref wG6), .unset, .unset, .unset] [])) (fun tgt kgo => ?_) ?_
      · show Steps p.tables e below (T10.setTop (mkF m 125 #[.val (.int p1), .val (.int p2), .val (.int p3), .val (.int p4), .val (.int (0 : Int32)), .val (.ref x_2), .val (.ref x_3), .val (.ref x_4), .val (.int kk), .val (.int z5_0), .val (.ref x_6), .val (.ref b7), .unset, .unset, .unset, .unset] [(.ref wG6)])) tgt
        refine XS.astore X10.here hx rfl (hb hby at_125) rfl rfl (l' := #[.val (.int p1), .val (.int p2), .val (.int p3), .val (.int p4), .val (.int (0 : Int32)), .val (.ref x_2), .val (.ref x_3), .val (.ref x_4), .val (.int kk), .val (.int z5_0), .val (.ref x_6), .val (.ref b7), .val (.ref wG6), .unset, .unset, .unset]) rfl ?_
        exact kgo
      obtain ⟨T11, h11, X11, e11, E11, A11, D11, U11, st11⟩ := newO X10 hx hZ6 ho6 (hw _ (List.mem_of_getElem? (i := 106) rfl)) (hw _ (List.mem_of_getElem? (i := 107) rfl)) (hw _ (List.mem_of_getElem? (i := 108) rfl)) eq10 (g := (mkF m 127 #[.val (.int p1), .val (.int p2), .val (.int p3), .val (.int p4), .val (.int (0 : Int32)), .val (.ref x_2), .val (.ref x_3), .val (.ref x_4), .val (.int kk), .val (.int z5_0), .val (.ref x_6), .val (.ref b7), .val (.ref wG6), .unset, .unset, .unset] [])) rfl (hb hby at_127) (by decide) (by decide)
      obtain ⟨b11, g11⟩ : ∃ z, z = T9.heap.size := ⟨_, rfl⟩
      rw [← g11] at A11 D11 U11 st11
      refine OwnGoes.step (T' := T11) (g' := (mkF m 130 #[.val (.int p1), .val (.int p2), .val (.int p3), .val (.int p4), .val (.int (0 : Int32)), .val (.ref x_2), .val (.ref x_3), .val (.ref x_4), .val (.int kk), .val (.int z5_0), .val (.ref x_6), .val (.ref b7), .val (.ref wG6), .unset, .unset, .unset] [(.ref b11)])) st11 ?_
      have ne_wG5_b11 : wG5 ≠ b11 := Nat.ne_of_lt (Nat.lt_of_lt_of_le F9_80.lt (Nat.le_of_eq g11.symm))
      have ne_wG6_b11 : wG6 ≠ b11 := Nat.ne_of_lt (Nat.lt_of_lt_of_le F9_81.lt (Nat.le_of_eq g11.symm))
      have ne_x_2_b11 : x_2 ≠ b11 := Nat.ne_of_lt (Nat.lt_of_lt_of_le F9_83.lt (Nat.le_of_eq g11.symm))
      have ne_t_2_b11 : t_2 ≠ b11 := Nat.ne_of_lt (Nat.lt_of_lt_of_le F9_86.lt (Nat.le_of_eq g11.symm))
      have ne_x_3_b11 : x_3 ≠ b11 := Nat.ne_of_lt (Nat.lt_of_lt_of_le F9_87.lt (Nat.le_of_eq g11.symm))
      have ne_t_3_b11 : t_3 ≠ b11 := Nat.ne_of_lt (Nat.lt_of_lt_of_le F9_90.lt (Nat.le_of_eq g11.symm))
      have ne_x_4_b11 : x_4 ≠ b11 := Nat.ne_of_lt (Nat.lt_of_lt_of_le F9_91.lt (Nat.le_of_eq g11.symm))
      have ne_t_4_b11 : t_4 ≠ b11 := Nat.ne_of_lt (Nat.lt_of_lt_of_le F9_94.lt (Nat.le_of_eq g11.symm))
      have ne_x_6_b11 : x_6 ≠ b11 := Nat.ne_of_lt (Nat.lt_of_lt_of_le F9_95.lt (Nat.le_of_eq g11.symm))
      have ne_t_6_b11 : t_6 ≠ b11 := Nat.ne_of_lt (Nat.lt_of_lt_of_le F9_98.lt (Nat.le_of_eq g11.symm))
      have ne_b7_b11 : b7 ≠ b11 := Nat.ne_of_lt (Nat.lt_of_lt_of_le fq9_0.lt (Nat.le_of_eq g11.symm))
      have g_b11 : n0 ≤ b11 := Nat.le_trans (Nat.le_trans Z0 K9.1) (Nat.le_of_eq g11.symm)
      have s_b11 : h0.size ≤ b11 := Nat.le_trans K9.1 (Nat.le_of_eq g11.symm)
      have Sf11 : Safe Z consts_1 T6.vm h11 b11 := Safe.ext E11 R9.1 (Safe.new (Nat.le_of_eq g11.symm))
      have F11_101 := F9_80.ext E11
      have F11_102 := F9_81.ext E11
      have F11_103 := F9_82.ext E11
      have F11_104 := F9_83.ext E11
      have F11_105 := F9_84.ext E11
      have F11_106 := F9_85.ext E11
      have F11_107 := F9_86.ext E11
      have F11_108 := F9_87.ext E11
      have F11_109 := F9_88.ext E11
      have F11_110 := F9_89.ext E11
      have F11_111 := F9_90.ext E11
      have F11_112 := F9_91.ext E11
      have F11_113 := F9_92.ext E11
      have F11_114 := F9_93.ext E11
      have F11_115 := F9_94.ext E11
      have F11_116 := F9_95.ext E11
      have F11_117 := F9_96.ext E11
      have F11_118 := F9_97.ext E11
      have F11_119 := F9_98.ext E11
      have F11_120 := Safe.ext E11 R9.1 F9_99
      have F11_121 := fq9_0.ext E11
      have Ol11 := Ol9.ext E11
      have K11 : Keep h0 h11 ([] : List Addr) := K9.ext E11
      have R11 := R9.trans (CHr.ext E11 R9.1)
      have hk11 := Nat.le_trans hk9 E11.1
      have F11_122 : Fld Z h11 b11 "com/example/veilstone/veilstone/fhir/Definitions$Element" "path" "Ljava/lang/String;" .null := D11 (Or.inr (hw _ (List.mem_of_getElem? (i := 119) rfl))) (ty := (.object "java/lang/String")) (by decide)
      have F11_123 : Fld Z h11 b11 "com/example/veilstone/veilstone/fhir/Definitions$Element" "repeating" "Z" (.int (0 : Int32)) := D11 (Or.inr (hw _ (List.mem_of_getElem? (i := 121) rfl))) (ty := .boolean) (by decide)
      have F11_124 : Fld Z h11 b11 "com/example/veilstone/veilstone/fhir/Definitions$Element" "types" "Ljava/util/List;" .null := D11 (Or.inr (hw _ (List.mem_of_getElem? (i := 123) rfl))) (ty := (.object "java/util/List")) (by decide)
      have F11_125 : Fld Z h11 b11 "com/example/veilstone/veilstone/fhir/Definitions$Element" "reused" "Ljava/util/Optional;" .null := D11 (Or.inr (hw _ (List.mem_of_getElem? (i := 125) rfl))) (ty := (.object "java/util/Optional")) (by decide)
      refine OwnGoes.step (T' := T11) (g' := (mkF m 139 #[.val (.int p1), .val (.int p2), .val (.int p3), .val (.int p4), .val (.int (0 : Int32)), .val (.ref x_2), .val (.ref x_3), .val (.ref x_4), .val (.int kk), .val (.int z5_0), .val (.ref x_6), .val (.ref b7), .val (.ref wG6), .unset, .unset, .unset] [(.ref wG6), (.ref b7), (.int z5_0), (.ref x_2), (.ref b11), (.ref b11)])) (fun tgt kgo => ?_) ?_
      · show Steps p.tables e below (T11.setTop (mkF m 130 #[.val (.int p1), .val (.int p2), .val (.int p3), .val (.int p4), .val (.int (0 : Int32)), .val (.ref x_2), .val (.ref x_3), .val (.ref x_4), .val (.int kk), .val (.int z5_0), .val (.ref x_6), .val (.ref b7), .val (.ref wG6), .unset, .unset, .unset] [(.ref b11)])) tgt
        refine XS.dup X11.here hx rfl (hb hby at_130) rfl rfl ?_
        show Steps p.tables e below (T11.setTop (mkF m 131 #[.val (.int p1), .val (.int p2), .val (.int p3), .val (.int p4), .val (.int (0 : Int32)), .val (.ref x_2), .val (.ref x_3), .val (.ref x_4), .val (.int kk), .val (.int z5_0), .val (.ref x_6), .val (.ref b7), .val (.ref wG6), .unset, .unset, .unset] [(.ref b11), (.ref b11)])) tgt
        refine XS.aload X11.here hx rfl (hb hby at_131) rfl rfl ?_
        show Steps p.tables e below (T11.setTop (mkF m 133 #[.val (.int p1), .val (.int p2), .val (.int p3), .val (.int p4), .val (.int (0 : Int32)), .val (.ref x_2), .val (.ref x_3), .val (.ref x_4), .val (.int kk), .val (.int z5_0), .val (.ref x_6), .val (.ref b7), .val (.ref wG6), .unset, .unset, .unset] [(.ref x_2), (.ref b11), (.ref b11)])) tgt
        refine XS.iload X11.here hx rfl (hb hby at_133) rfl ?_
        show Steps p.tables e below (T11.setTop (mkF m 135 #[.val (.int p1), .val (.int p2), .val (.int p3), .val (.int p4), .val (.int (0 : Int32)), .val (.ref x_2), .val (.ref x_3), .val (.ref x_4), .val (.int kk), .val (.int z5_0), .val (.ref x_6), .val (.ref b7), .val (.ref wG6), .unset, .unset, .unset] [(.int z5_0), (.ref x_2), (.ref b11), (.ref b11)])) tgt
        refine XS.aload X11.here hx rfl (hb hby at_135) rfl rfl ?_
        show Steps p.tables e below (T11.setTop (mkF m 137 #[.val (.int p1), .val (.int p2), .val (.int p3), .val (.int p4), .val (.int (0 : Int32)), .val (.ref x_2), .val (.ref x_3), .val (.ref x_4), .val (.int kk), .val (.int z5_0), .val (.ref x_6), .val (.ref b7), .val (.ref wG6), .unset, .unset, .unset] [(.ref b7), (.int z5_0), (.ref x_2), (.ref b11), (.ref b11)])) tgt
        refine XS.aload X11.here hx rfl (hb hby at_137) rfl rfl ?_
        exact kgo
      obtain ⟨_, _, ⟨T12, L12, k12, n12⟩, -, X12, ⟨Lc12, hQ12, l12, y12, z12⟩, st12⟩ := X11.specialBack hx (y := (⟨"com/example/veilstone/veilstone/fhir/Definitions$Element", "<init>", "(Ljava/lang/String;ZLjava/util/List;Ljava/util/Optional;)V"⟩ : MethodName)) rfl ho6 (mvT hZ6 (hw _ (List.mem_of_getElem? (i := 109) rfl))) (mvT hZ6 (hw _ (List.mem_of_getElem? (i := 110) rfl))) (mvT hZ6 (hw _ (List.mem_of_getElem? (i := 111) rfl))) (by decide) (backOf (W := 1) (rm_eli l Z a0 hw [] wG1 wO2 wP5 wG3 wO4 wrG3 hstr wG5 wK5 wO5 wV5 wG6 wO6 wE6 wF6 hEL h11 n0 Ol11 b11 x_2 z5_0 b7 wG6 A11 F11_122 F11_123 F11_124 F11_125 g_b11) hZ6 (hw _ (List.mem_of_getElem? (i := 111) rfl)) (hw _ (List.mem_of_getElem? (i := 108) rfl)) (by decide) (by decide)) (g := (mkF m 139 #[.val (.int p1), .val (.int p2), .val (.int p3), .val (.int p4), .val (.int (0 : Int32)), .val (.ref x_2), .val (.ref x_3), .val (.ref x_4), .val (.int kk), .val (.int z5_0), .val (.ref x_6), .val (.ref b7), .val (.ref wG6), .unset, .unset, .unset] [(.ref wG6), (.ref b7), (.int z5_0), (.ref x_2), (.ref b11), (.ref b11)])) rfl (by rw [hml]; rfl) (Steps.refl _) (a := b11) (argsL := [(.ref x_2), (.int z5_0), (.ref b7), (.ref wG6)]) (rest := [(.ref b11)]) (lenOf pd_68560485 rfl) rfl (by show 2 * 0 + _ ≤ _; exact Nat.le_of_eq rfl) (hb hby at_139) (fun _ _ => ⟨rfl, e11, (by decide : 23 + 0 ≤ _), (by decide : 117 + 0 ≤ _)⟩)
      dsimp only [Pt.U, Pt.locs, Pt.cells, Pt.slots] at X12 l12 y12 z12 st12 hQ12
      subst l12 y12 z12
      obtain ⟨rfl, Nq12, Kq12, fq12_0, fq12_1, fq12_2⟩ := hQ12
      refine OwnGoes.tr (T' := T12) (g' := (mkF m 142 #[.val (.int p1), .val (.int p2), .val (.int p3), .val (.int p4), .val (.int (0 : Int32)), .val (.ref x_2), .val (.ref x_3), .val (.ref x_4), .val (.int kk), .val (.int z5_0), .val (.ref x_6), .val (.ref b7), .val (.ref wG6), .unset, .unset, .unset] [(.ref b11)])) st12 ?_
      have N12 := Fr.app N10 Nq12
      have F12_126 := F11_101.keep Kq12 (ninS ne_wG5_b11 nin0)
      have F12_127 := F11_102.keep Kq12
      have F12_128 := F11_103.keep Kq12 (ninS ne_wG6_b11 nin0)
      have F12_129 := F11_104.keep Kq12
      have F12_130 := F11_105.keep Kq12 (ninS ne_x_2_b11 nin0)
      have F12_131 := F11_106.keep Kq12 (ninS ne_x_2_b11 nin0)
      have F12_132 := F11_107.keep Kq12 (ninS ne_t_2_b11 nin0)
      have F12_133 := F11_108.keep Kq12
      have F12_134 := F11_109.keep Kq12 (ninS ne_x_3_b11 nin0)
      have F12_135 := F11_110.keep Kq12 (ninS ne_x_3_b11 nin0)
      have F12_136 := F11_111.keep Kq12 (ninS ne_t_3_b11 nin0)
      have F12_137 := F11_112.keep Kq12
      have F12_138 := F11_113.keep Kq12 (ninS ne_x_4_b11 nin0)
      have F12_139 := F11_114.keep Kq12 (ninS ne_x_4_b11 nin0)
      have F12_140 := F11_115.keep Kq12 (ninS ne_t_4_b11 nin0)
      have F12_141 := F11_116.keep Kq12
      have F12_142 := F11_117.keep Kq12 (ninS ne_x_6_b11 nin0)
      have F12_143 := F11_118.keep Kq12 (ninS ne_x_6_b11 nin0)
      have F12_144 := F11_119.keep Kq12 (ninS ne_t_6_b11 nin0)
      have F12_145 := Safe.keep Kq12 (sfS Sf11 sf0) R11.1 F11_120
      have F12_146 := F11_121.keep Kq12
      have F12_147 := Safe.keep Kq12 (sfS Sf11 sf0) R11.1 Sf11
      have F12_148 := A11.keep Kq12
      have Ol12 := Ol11.keep Kq12 (allS g_b11 all0)
      have K12 : Keep h0 T12.heap ([] : List Addr) := K11.trans Kq12 (allS (Or.inr s_b11) all0)
      have R12 := R11.trans (CHr.keep Kq12 (sfS Sf11 sf0) R11.1)
      have hk12 := Nat.le_trans hk11 Kq12.1
      refine OwnGoes.step (T' := T12) (g' := (mkF m 148 #[.val (.int p1), .val (.int p2), .val (.int p3), .val (.int p4), .val (.int (0 : Int32)), .val (.ref x_2), .val (.ref x_3), .val (.ref x_4), .val (.int kk), .val (.int z5_0), .val (.ref x_6), .val (.ref b7), .val (.ref wG6), .val (.ref b11), .unset, .unset] [(.ref x_6), (.ref b11)])) (fun tgt kgo => ?_) ?_
      · show Steps p.tables e below (T12.setTop (mkF m 142 #[.val (.int p1), .val (.int p2), .val (.int p3), .val (.int p4), .val (.int (0 : Int32)), .val (.ref x_2), .val (.ref x_3), .val (.ref x_4), .val (.int kk), .val (.int z5_0), .val (.ref x_6), .val (.ref b7), .val (.ref wG6), .unset, .unset, .unset] [(.ref b11)])) tgt
        refine XS.astore X12.here hx rfl (hb hby at_142) rfl rfl (l' := #[.val (.int p1), .val (.int p2), .val (.int p3), .val (.int p4), .val (.int (0 : Int32)), .val (.ref x_2), .val (.ref x_3), .val (.ref x_4), .val (.int kk), .val (.int z5_0), .val (.ref x_6), .val (.ref b7), .val (.ref wG6), .val (.ref b11), .unset, .unset]) rfl ?_
        show Steps p.tables e below (T12.setTop (mkF m 144 #[.val (.int p1), .val (.int p2), .val (.int p3), .val (.int p4), .val (.int (0 : Int32)), .val (.ref x_2), .val (.ref x_3), .val (.ref x_4), .val (.int kk), .val (.int z5_0), .val (.ref x_6), .val (.ref b7), .val (.ref wG6), .val (.ref b11), .unset, .unset] [])) tgt
        refine XS.aload X12.here hx rfl (hb hby at_144) rfl rfl ?_
        show Steps p.tables e below (T12.setTop (mkF m 146 #[.val (.int p1), .val (.int p2), .val (.int p3), .val (.int p4), .val (.int (0 : Int32)), .val (.ref x_2), .val (.ref x_3), .val (.ref x_4), .val (.int kk), .val (.int z5_0), .val (.ref x_6), .val (.ref b7), .val (.ref wG6), .val (.ref b11), .unset, .unset] [(.ref b11)])) tgt
        refine XS.aload X12.here hx rfl (hb hby at_146) rfl rfl ?_
        exact kgo
      obtain ⟨cq13, kq13, q13a, q13b, q13c⟩ := isOf (s := (s.setVm T6.vm)) hZ6 rfl fq12_0
      obtain ⟨_, _, ⟨T13, L13, k13, n13⟩, -, X13, Si13, Gr13, ⟨Lc13, hQ13, l13, y13, z13, Rc13⟩, st13⟩ := X12.virtualBackS hx (y := (⟨"com/example/veilstone/veilstone/fhir/Definitions$Element", "elementsOf", "(Ljava/lang/String;)Ljava/lang/String;"⟩ : MethodName)) (z := (⟨"com/example/veilstone/veilstone/fhir/Definitions$Element", "elementsOf", "(Ljava/lang/String;)Ljava/lang/String;"⟩ : MethodName)) ho6 (mvT hZ6 (hw _ (List.mem_of_getElem? (i := 126) rfl))) (mvT hZ6 (hw _ (List.mem_of_getElem? (i := 127) rfl))) (notFace_of_selects (args := #[]) (mvT hZ6 (hw _ (List.mem_of_getElem? (i := 129) rfl)))) (mvT hZ6 (hw _ (List.mem_of_getElem? (i := 129) rfl))) (mvT hZ6 (hw _ (List.mem_of_getElem? (i := 128) rfl))) (by decide) (backOfSH (W := 0) (rm_ela l Z a0 hw [] wG1 wO2 wP5 wG3 wO4 wrG3 hstr wG5 wK5 wO5 wV5 wG6 wO6 wE6 wF6 hEL T12.heap n0 Ol12 b11 wG6 x_2 x_6 t_6 k_6 N_6 vs_6 cs_6 fq12_2 F12_127 F12_128 fq12_1 F12_141 F12_142 F12_143 F12_144 pq6_0) hZ6 (hw _ (List.mem_of_getElem? (i := 130) rfl)) (hw _ (List.mem_of_getElem? (i := 108) rfl)) (by decide) (by decide) hEL R12.1) q13a q13c (g := (mkF m 148 #[.val (.int p1), .val (.int p2), .val (.int p3), .val (.int p4), .val (.int (0 : Int32)), .val (.ref x_2), .val (.ref x_3), .val (.ref x_4), .val (.int kk), .val (.int z5_0), .val (.ref x_6), .val (.ref b7), .val (.ref wG6), .val (.ref b11), .unset, .unset] [(.ref x_6), (.ref b11)])) rfl (by rw [hml]; rfl) (Steps.refl _) (argsL := [(.ref x_6)]) (rest := []) (lenOf pd_3111897 rfl) rfl (by show 2 * 0 + _ ≤ _; exact Nat.le_of_eq rfl) (hb hby at_148) (fun _ _ => ⟨rfl, rfl, (by decide : 23 + 4 ≤ _), (by decide : 117 + 96 ≤ _)⟩)
      dsimp only [Pt.U, Pt.locs, Pt.cells, Pt.slots] at X13 l13 y13 z13 st13 hQ13 Si13 Gr13 Rc13
      subst l13 y13 z13
      obtain ⟨y_13, rfl, Nq13, Kq13, pq13_0⟩ := hQ13
      refine OwnGoes.tr (T' := T13) (g' := (mkF m 151 #[.val (.int p1), .val (.int p2), .val (.int p3), .val (.int p4), .val (.int (0 : Int32)), .val (.ref x_2), .val (.ref x_3), .val (.ref x_4), .val (.int kk), .val (.int z5_0), .val (.ref x_6), .val (.ref b7), .val (.ref wG6), .val (.ref b11), .unset, .unset] [(.ref y_13)])) st13 ?_
      have N13 := Fr.app N12 Nq13
      have gz13 : T12.heap.size ≤ T13.heap.size := Rc13.2.1
      obtain ⟨X13, hS13, hZ13, ho13⟩ := rebS hS6 hk12 X13 Si13 gz13 hZ6 ho6
      have F13_149 := F12_126.keep Kq13 nin0
      have F13_150 := F12_127.keep Kq13
      have F13_151 := F12_128.keep Kq13 nin0
      have F13_152 := F12_129.keep Kq13
      have F13_153 := F12_130.keep Kq13 nin0
      have F13_154 := F12_131.keep Kq13 nin0
      have F13_155 := F12_132.keep Kq13 nin0
      have F13_156 := F12_133.keep Kq13
      have F13_157 := F12_134.keep Kq13 nin0
      have F13_158 := F12_135.keep Kq13 nin0
      have F13_159 := F12_136.keep Kq13 nin0
      have F13_160 := F12_137.keep Kq13
      have F13_161 := F12_138.keep Kq13 nin0
      have F13_162 := F12_139.keep Kq13 nin0
      have F13_163 := F12_140.keep Kq13 nin0
      have F13_164 := F12_141.keep Kq13
      have F13_165 := F12_142.keep Kq13 nin0
      have F13_166 := F12_143.keep Kq13 nin0
      have F13_167 := F12_144.keep Kq13 nin0
      have F13_168 := Rc13.safe F12_146.lt F12_145
      have F13_169 := F12_146.keep Kq13
      have F13_170 := Rc13.safe fq12_0.lt F12_147
      have F13_171 := fq12_0.keep Kq13
      have F13_172 := fq12_1.keep Kq13 nin0
      have F13_173 := fq12_2.keep Kq13 nin0
      have Ol13 := Ol12.keep Kq13 all0
      have K13 : Keep h0 T13.heap ([] : List Addr) := K12.trans Kq13 all0
      have R13 := R12.trans Rc13
      rcases pq13_0 with ⟨hany, rfl⟩ | ⟨hany, rfl⟩
      · skip
        have hk2 : kk < 2 := (pq6_1.resolve_right fun z => hany.elim z.2.1 z.2.2).1
        refine OwnGoes.step (T' := T13) (g' := (mkF m 191 #[.val (.int p1), .val (.int p2), .val (.int p3), .val (.int p4), .val (.int (0 : Int32)), .val (.ref y_13), .val (.ref x_3), .val (.ref x_4), .val (.int kk), .val (.int z5_0), .val (.ref x_6), .val (.ref b7), .val (.ref wG6), .val (.ref b11), .val (.ref y_13), .val (.ref y_13)] [(.ref y_13), (.ref y_13)])) (fun tgt kgo => ?_) ?_
        · show Steps p.tables e below (T13.setTop (mkF m 151 #[.val (.int p1), .val (.int p2), .val (.int p3), .val (.int p4), .val (.int (0 : Int32)), .val (.ref y_13), .val (.ref x_3), .val (.ref x_4), .val (.int kk), .val (.int z5_0), .val (.ref x_6), .val (.ref b7), .val (.ref wG6), .val (.ref b11), .unset, .unset] [(.ref y_13)])) tgt
          refine XS.astore X13.here hx rfl (hb hby at_151) rfl rfl (l' := #[.val (.int p1), .val (.int p2), .val (.int p3), .val (.int p4), .val (.int (0 : Int32)), .val (.ref y_13), .val (.ref x_3), .val (.ref x_4), .val (.int kk), .val (.int z5_0), .val (.ref x_6), .val (.ref b7), .val (.ref wG6), .val (.ref b11), .val (.ref y_13), .unset]) rfl ?_
          show Steps p.tables e below (T13.setTop (mkF m 153 #[.val (.int p1), .val (.int p2), .val (.int p3), .val (.int p4), .val (.int (0 : Int32)), .val (.ref y_13), .val (.ref x_3), .val (.ref x_4), .val (.int kk), .val (.int z5_0), .val (.ref x_6), .val (.ref b7), .val (.ref wG6), .val (.ref b11), .val (.ref y_13), .unset] [])) tgt
          refine XS.iload X13.here hx rfl (hb hby at_153) rfl ?_
          show Steps p.tables e below (T13.setTop (mkF m 155 #[.val (.int p1), .val (.int p2), .val (.int p3), .val (.int p4), .val (.int (0 : Int32)), .val (.ref y_13), .val (.ref x_3), .val (.ref x_4), .val (.int kk), .val (.int z5_0), .val (.ref x_6), .val (.ref b7), .val (.ref wG6), .val (.ref b11), .val (.ref y_13), .unset] [(.int (0 : Int32))])) tgt
          refine XS.ifYes X13.here hx rfl (pc0 := 155) (pc' := 165) rfl (hb hby at_155) rfl ((if0 _ _).trans (teq (by decide : (0 : Int32) = (0 : Int32))).1) (by decide) (by decide) ?_
          show Steps p.tables e below (T13.setTop (mkF m 165 #[.val (.int p1), .val (.int p2), .val (.int p3), .val (.int p4), .val (.int (0 : Int32)), .val (.ref y_13), .val (.ref x_3), .val (.ref x_4), .val (.int kk), .val (.int z5_0), .val (.ref x_6), .val (.ref b7), .val (.ref wG6), .val (.ref b11), .val (.ref y_13), .unset] [])) tgt
          refine XS.iload X13.here hx rfl (hb hby at_165) rfl ?_
          show Steps p.tables e below (T13.setTop (mkF m 167 #[.val (.int p1), .val (.int p2), .val (.int p3), .val (.int p4), .val (.int (0 : Int32)), .val (.ref y_13), .val (.ref x_3), .val (.ref x_4), .val (.int kk), .val (.int z5_0), .val (.ref x_6), .val (.ref b7), .val (.ref wG6), .val (.ref b11), .val (.ref y_13), .unset] [(.int kk)])) tgt
          refine XS.iconst X13.here hx rfl (hb hby at_167) ?_
          show Steps p.tables e below (T13.setTop (mkF m 168 #[.val (.int p1), .val (.int p2), .val (.int p3), .val (.int p4), .val (.int (0 : Int32)), .val (.ref y_13), .val (.ref x_3), .val (.ref x_4), .val (.int kk), .val (.int z5_0), .val (.ref x_6), .val (.ref b7), .val (.ref wG6), .val (.ref b11), .val (.ref y_13), .unset] [(.int (2 : Int32)), (.int kk)])) tgt
          refine XS.icmpNo X13.here hx rfl (hb hby at_168) rfl (tlt hk2).2.1 ?_
          show Steps p.tables e below (T13.setTop (mkF m 171 #[.val (.int p1), .val (.int p2), .val (.int p3), .val (.int p4), .val (.int (0 : Int32)), .val (.ref y_13), .val (.ref x_3), .val (.ref x_4), .val (.int kk), .val (.int z5_0), .val (.ref x_6), .val (.ref b7), .val (.ref wG6), .val (.ref b11), .val (.ref y_13), .unset] [])) tgt
          refine XS.aload X13.here hx rfl (hb hby at_171) rfl rfl ?_
          show Steps p.tables e below (T13.setTop (mkF m 173 #[.val (.int p1), .val (.int p2), .val (.int p3), .val (.int p4), .val (.int (0 : Int32)), .val (.ref y_13), .val (.ref x_3), .val (.ref x_4), .val (.int kk), .val (.int z5_0), .val (.ref x_6), .val (.ref b7), .val (.ref wG6), .val (.ref b11), .val (.ref y_13), .unset] [(.ref y_13)])) tgt
          refine XS.astore X13.here hx rfl (hb hby at_173) rfl rfl (l' := #[.val (.int p1), .val (.int p2), .val (.int p3), .val (.int p4), .val (.int (0 : Int32)), .val (.ref y_13), .val (.ref x_3), .val (.ref x_4), .val (.int kk), .val (.int z5_0), .val (.ref x_6), .val (.ref b7), .val (.ref wG6), .val (.ref b11), .val (.ref y_13), .val (.ref y_13)]) rfl ?_
          show Steps p.tables e below (T13.setTop (mkF m 175 #[.val (.int p1), .val (.int p2), .val (.int p3), .val (.int p4), .val (.int (0 : Int32)), .val (.ref y_13), .val (.ref x_3), .val (.ref x_4), .val (.int kk), .val (.int z5_0), .val (.ref x_6), .val (.ref b7), .val (.ref wG6), .val (.ref b11), .val (.ref y_13), .val (.ref y_13)] [])) tgt
          refine XS.goto X13.here hx rfl (pc0 := 175) (pc' := 182) rfl (hb hby at_175) (by decide) (by decide) ?_
          show Steps p.tables e below (T13.setTop (mkF m 182 #[.val (.int p1), .val (.int p2), .val (.int p3), .val (.int p4), .val (.int (0 : Int32)), .val (.ref y_13), .val (.ref x_3), .val (.ref x_4), .val (.int kk), .val (.int z5_0), .val (.ref x_6), .val (.ref b7), .val (.ref wG6), .val (.ref b11), .val (.ref y_13), .val (.ref y_13)] [])) tgt
          refine XS.aload X13.here hx rfl (hb hby at_182) rfl rfl ?_
          show Steps p.tables e below (T13.setTop (mkF m 184 #[.val (.int p1), .val (.int p2), .val (.int p3), .val (.int p4), .val (.int (0 : Int32)), .val (.ref y_13), .val (.ref x_3), .val (.ref x_4), .val (.int kk), .val (.int z5_0), .val (.ref x_6), .val (.ref b7), .val (.ref wG6), .val (.ref b11), .val (.ref y_13), .val (.ref y_13)] [(.ref y_13)])) tgt
          refine XS.ifnullNo X13.here hx rfl (hb hby at_184) rfl ?_
          show Steps p.tables e below (T13.setTop (mkF m 187 #[.val (.int p1), .val (.int p2), .val (.int p3), .val (.int p4), .val (.int (0 : Int32)), .val (.ref y_13), .val (.ref x_3), .val (.ref x_4), .val (.int kk), .val (.int z5_0), .val (.ref x_6), .val (.ref b7), .val (.ref wG6), .val (.ref b11), .val (.ref y_13), .val (.ref y_13)] [])) tgt
          refine XS.aload X13.here hx rfl (hb hby at_187) rfl rfl ?_
          show Steps p.tables e below (T13.setTop (mkF m 189 #[.val (.int p1), .val (.int p2), .val (.int p3), .val (.int p4), .val (.int (0 : Int32)), .val (.ref y_13), .val (.ref x_3), .val (.ref x_4), .val (.int kk), .val (.int z5_0), .val (.ref x_6), .val (.ref b7), .val (.ref wG6), .val (.ref b11), .val (.ref y_13), .val (.ref y_13)] [(.ref y_13)])) tgt
          refine XS.aload X13.here hx rfl (hb hby at_189) rfl rfl ?_
          exact kgo
        obtain ⟨cq14, kq14, q14a, q14b, q14c⟩ := isOf (s := (s.setVm T13.vm)) hZ13 rfl F13_152
        obtain ⟨_, _, ⟨T14, L14, k14, n14⟩, -, X14, ⟨Lc14, hQ14, l14, y14, z14⟩, st14⟩ := X13.virtualBack hx (y := (⟨"java/lang/String", "equals", "(Ljava/lang/Object;)Z"⟩ : MethodName)) (z := (⟨"java/lang/String", "equals", "(Ljava/lang/Object;)Z"⟩ : MethodName)) ho13 (mvT hZ13 (hw _ (List.mem_of_getElem? (i := 142) rfl))) (mvT hZ13 (hw _ (List.mem_of_getElem? (i := 143) rfl))) (notFace_of_selects (args := #[]) (mvT hZ13 (hw _ (List.mem_of_getElem? (i := 145) rfl)))) (mvT hZ13 (hw _ (List.mem_of_getElem? (i := 145) rfl))) (mvT hZ13 (hw _ (List.mem_of_getElem? (i := 144) rfl))) (by decide) (backOf (W := 0) (rm_eqsame l Z a0 hw [] wG1 wO2 wP5 wG3 wO4 wrG3 hstr wG5 wK5 wO5 wV5 wG6 wO6 wE6 wF6 hEL T13.heap n0 Ol13 y_13) hZ13 (hw _ (List.mem_of_getElem? (i := 146) rfl)) (hw _ (List.mem_of_getElem? (i := 6) rfl)) (by decide) (by decide)) q14a q14c (g := (mkF m 191 #[.val (.int p1), .val (.int p2), .val (.int p3), .val (.int p4), .val (.int (0 : Int32)), .val (.ref y_13), .val (.ref x_3), .val (.ref x_4), .val (.int kk), .val (.int z5_0), .val (.ref x_6), .val (.ref b7), .val (.ref wG6), .val (.ref b11), .val (.ref y_13), .val (.ref y_13)] [(.ref y_13), (.ref y_13)])) rfl (by rw [hml]; rfl) (Steps.refl _) (argsL := [(.ref y_13)]) (rest := []) (lenOf pd_81697300 rfl) rfl (by show 2 * 0 + _ ≤ _; exact Nat.le_of_eq rfl) (hb hby at_191) (fun _ _ => ⟨rfl, rfl, (by decide : 27 + 0 ≤ _), (by decide : 213 + 0 ≤ _)⟩)
        dsimp only [Pt.U, Pt.locs, Pt.cells, Pt.slots] at X14 l14 y14 z14 st14 hQ14
        subst l14 y14 z14
        obtain ⟨rfl, Nq14, eq14⟩ := hQ14
        refine OwnGoes.tr (T' := T14) (g' := (mkF m 194 #[.val (.int p1), .val (.int p2), .val (.int p3), .val (.int p4), .val (.int (0 : Int32)), .val (.ref y_13), .val (.ref x_3), .val (.ref x_4), .val (.int kk), .val (.int z5_0), .val (.ref x_6), .val (.ref b7), .val (.ref wG6), .val (.ref b11), .val (.ref y_13), .val (.ref y_13)] [(.int (1 : Int32))])) st14 ?_
        have N14 := Fr.app N13 Nq14
        refine OwnGoes.step (T' := T14) (g' := (mkF m 202 #[.val (.int p1), .val (.int p2), .val (.int p3), .val (.int p4), .val (.int (0 : Int32)), .val (.ref y_13), .val (.ref x_3), .val (.ref x_4), .val (.int kk), .val (.int z5_0), .val (.ref x_6), .val (.ref b7), .val (.ref wG6), .val (.ref b11), .val (.ref y_13), .val (.ref y_13)] [(.int (1 : Int32))])) (fun tgt kgo => ?_) ?_
        · show Steps p.tables e below (T14.setTop (mkF m 194 #[.val (.int p1), .val (.int p2), .val (.int p3), .val (.int p4), .val (.int (0 : Int32)), .val (.ref y_13), .val (.ref x_3), .val (.ref x_4), .val (.int kk), .val (.int z5_0), .val (.ref x_6), .val (.ref b7), .val (.ref wG6), .val (.ref b11), .val (.ref y_13), .val (.ref y_13)] [(.int (1 : Int32))])) tgt
          refine XS.ifNo X14.here hx rfl (hb hby at_194) rfl ((if0 _ _).trans (feq (by decide : ¬ ((1 : Int32) = (0 : Int32)))).1) ?_
          show Steps p.tables e below (T14.setTop (mkF m 197 #[.val (.int p1), .val (.int p2), .val (.int p3), .val (.int p4), .val (.int (0 : Int32)), .val (.ref y_13), .val (.ref x_3), .val (.ref x_4), .val (.int kk), .val (.int z5_0), .val (.ref x_6), .val (.ref b7), .val (.ref wG6), .val (.ref b11), .val (.ref y_13), .val (.ref y_13)] [])) tgt
          refine XS.iconst X14.here hx rfl (hb hby at_197) ?_
          show Steps p.tables e below (T14.setTop (mkF m 198 #[.val (.int p1), .val (.int p2), .val (.int p3), .val (.int p4), .val (.int (0 : Int32)), .val (.ref y_13), .val (.ref x_3), .val (.ref x_4), .val (.int kk), .val (.int z5_0), .val (.ref x_6), .val (.ref b7), .val (.ref wG6), .val (.ref b11), .val (.ref y_13), .val (.ref y_13)] [(.int (1 : Int32))])) tgt
          refine XS.goto X14.here hx rfl (pc0 := 198) (pc' := 202) rfl (hb hby at_198) (by decide) (by decide) ?_
          exact kgo
        refine own_leaveW (Z := Z) (EL := consts_1) X14 hS13 (eq14 ▸ (Nat.le_refl _)) hlk (v := some (.int (1 : Int32))) (fun h => by rw [Bd.returns] at h; cases h) (fun fs hr => retN X14 hx (t := .boolean) Bd.returns (by simp) (hb hby at_202) (by rw [(by decide : nar .boolean (1 : Int32) = (1 : Int32))]; exact hr)) (by decide) (by decide) ?_ ?_
        · rw [hh, eq14]
          exact R13.trans (CHv.at X14 hZ13 hEL R13.1)
        show Q_law Z p1 p2 p3 p4 h0 n0 _ T14.heap _
        rw [eq14]
        exact ⟨rfl, N14⟩
      · skip
        have hk2 : ¬ kk < 2 := (pq6_1.resolve_left fun z => hany z.2).1
        refine OwnGoes.step (T' := T13) (g' := (mkF m 191 #[.val (.int p1), .val (.int p2), .val (.int p3), .val (.int p4), .val (.int (0 : Int32)), .val (.ref x_2), .val (.ref x_3), .val (.ref x_4), .val (.int kk), .val (.int z5_0), .val (.ref y_13), .val (.ref b7), .val (.ref wG6), .val (.ref b11), .val (.ref y_13), .val (.ref y_13)] [(.ref y_13), (.ref y_13)])) (fun tgt kgo => ?_) ?_
        · show Steps p.tables e below (T13.setTop (mkF m 151 #[.val (.int p1), .val (.int p2), .val (.int p3), .val (.int p4), .val (.int (0 : Int32)), .val (.ref x_2), .val (.ref x_3), .val (.ref x_4), .val (.int kk), .val (.int z5_0), .val (.ref y_13), .val (.ref b7), .val (.ref wG6), .val (.ref b11), .unset, .unset] [(.ref y_13)])) tgt
          refine XS.astore X13.here hx rfl (hb hby at_151) rfl rfl (l' := #[.val (.int p1), .val (.int p2), .val (.int p3), .val (.int p4), .val (.int (0 : Int32)), .val (.ref x_2), .val (.ref x_3), .val (.ref x_4), .val (.int kk), .val (.int z5_0), .val (.ref y_13), .val (.ref b7), .val (.ref wG6), .val (.ref b11), .val (.ref y_13), .unset]) rfl ?_
          show Steps p.tables e below (T13.setTop (mkF m 153 #[.val (.int p1), .val (.int p2), .val (.int p3), .val (.int p4), .val (.int (0 : Int32)), .val (.ref x_2), .val (.ref x_3), .val (.ref x_4), .val (.int kk), .val (.int z5_0), .val (.ref y_13), .val (.ref b7), .val (.ref wG6), .val (.ref b11), .val (.ref y_13), .unset] [])) tgt
          refine XS.iload X13.here hx rfl (hb hby at_153) rfl ?_
          show Steps p.tables e below (T13.setTop (mkF m 155 #[.val (.int p1), .val (.int p2), .val (.int p3), .val (.int p4), .val (.int (0 : Int32)), .val (.ref x_2), .val (.ref x_3), .val (.ref x_4), .val (.int kk), .val (.int z5_0), .val (.ref y_13), .val (.ref b7), .val (.ref wG6), .val (.ref b11), .val (.ref y_13), .unset] [(.int (0 : Int32))])) tgt
          refine XS.ifYes X13.here hx rfl (pc0 := 155) (pc' := 165) rfl (hb hby at_155) rfl ((if0 _ _).trans (teq (by decide : (0 : Int32) = (0 : Int32))).1) (by decide) (by decide) ?_
          show Steps p.tables e below (T13.setTop (mkF m 165 #[.val (.int p1), .val (.int p2), .val (.int p3), .val (.int p4), .val (.int (0 : Int32)), .val (.ref x_2), .val (.ref x_3), .val (.ref x_4), .val (.int kk), .val (.int z5_0), .val (.ref y_13), .val (.ref b7), .val (.ref wG6), .val (.ref b11), .val (.ref y_13), .unset] [])) tgt
          refine XS.iload X13.here hx rfl (hb hby at_165) rfl ?_
          show Steps p.tables e below (T13.setTop (mkF m 167 #[.val (.int p1), .val (.int p2), .val (.int p3), .val (.int p4), .val (.int (0 : Int32)), .val (.ref x_2), .val (.ref x_3), .val (.ref x_4), .val (.int kk), .val (.int z5_0), .val (.ref y_13), .val (.ref b7), .val (.ref wG6), .val (.ref b11), .val (.ref y_13), .unset] [(.int kk)])) tgt
          refine XS.iconst X13.here hx rfl (hb hby at_167) ?_
          show Steps p.tables e below (T13.setTop (mkF m 168 #[.val (.int p1), .val (.int p2), .val (.int p3), .val (.int p4), .val (.int (0 : Int32)), .val (.ref x_2), .val (.ref x_3), .val (.ref x_4), .val (.int kk), .val (.int z5_0), .val (.ref y_13), .val (.ref b7), .val (.ref wG6), .val (.ref b11), .val (.ref y_13), .unset] [(.int (2 : Int32)), (.int kk)])) tgt
          refine XS.icmpYes X13.here hx rfl (pc0 := 168) (pc' := 178) rfl (hb hby at_168) rfl (flt hk2).2.1 (by decide) (by decide) ?_
          show Steps p.tables e below (T13.setTop (mkF m 178 #[.val (.int p1), .val (.int p2), .val (.int p3), .val (.int p4), .val (.int (0 : Int32)), .val (.ref x_2), .val (.ref x_3), .val (.ref x_4), .val (.int kk), .val (.int z5_0), .val (.ref y_13), .val (.ref b7), .val (.ref wG6), .val (.ref b11), .val (.ref y_13), .unset] [])) tgt
          refine XS.aload X13.here hx rfl (hb hby at_178) rfl rfl ?_
          show Steps p.tables e below (T13.setTop (mkF m 180 #[.val (.int p1), .val (.int p2), .val (.int p3), .val (.int p4), .val (.int (0 : Int32)), .val (.ref x_2), .val (.ref x_3), .val (.ref x_4), .val (.int kk), .val (.int z5_0), .val (.ref y_13), .val (.ref b7), .val (.ref wG6), .val (.ref b11), .val (.ref y_13), .unset] [(.ref y_13)])) tgt
          refine XS.astore X13.here hx rfl (hb hby at_180) rfl rfl (l' := #[.val (.int p1), .val (.int p2), .val (.int p3), .val (.int p4), .val (.int (0 : Int32)), .val (.ref x_2), .val (.ref x_3), .val (.ref x_4), .val (.int kk), .val (.int z5_0), .val (.ref y_13), .val (.ref b7), .val (.ref wG6), .val (.ref b11), .val (.ref y_13), .val (.ref y_13)]) rfl ?_
          show Steps p.tables e below (T13.setTop (mkF m 182 #[.val (.int p1), .val (.int p2), .val (.int p3), .val (.int p4), .val (.int (0 : Int32)), .val (.ref x_2), .val (.ref x_3), .val (.ref x_4), .val (.int kk), .val (.int z5_0), .val (.ref y_13), .val (.ref b7), .val (.ref wG6), .val (.ref b11), .val (.ref y_13), .val (.ref y_13)] [])) tgt
          refine XS.aload X13.here hx rfl (hb hby at_182) rfl rfl ?_
          show Steps p.tables e below (T13.setTop (mkF m 184 #[.val (.int p1), .val (.int p2), .val (.int p3), .val (.int p4), .val (.int (0 : Int32)), .val (.ref x_2), .val (.ref x_3), .val (.ref x_4), .val (.int kk), .val (.int z5_0), .val (.ref y_13), .val (.ref b7), .val (.ref wG6), .val (.ref b11), .val (.ref y_13), .val (.ref y_13)] [(.ref y_13)])) tgt
          refine XS.ifnullNo X13.here hx rfl (hb hby at_184) rfl ?_
          show Steps p.tables e below (T13.setTop (mkF m 187 #[.val (.int p1), .val (.int p2), .val (.int p3), .val (.int p4), .val (.int (0 : Int32)), .val (.ref x_2), .val (.ref x_3), .val (.ref x_4), .val (.int kk), .val (.int z5_0), .val (.ref y_13), .val (.ref b7), .val (.ref wG6), .val (.ref b11), .val (.ref y_13), .val (.ref y_13)] [])) tgt
          refine XS.aload X13.here hx rfl (hb hby at_187) rfl rfl ?_
          show Steps p.tables e below (T13.setTop (mkF m 189 #[.val (.int p1), .val (.int p2), .val (.int p3), .val (.int p4), .val (.int (0 : Int32)), .val (.ref x_2), .val (.ref x_3), .val (.ref x_4), .val (.int kk), .val (.int z5_0), .val (.ref y_13), .val (.ref b7), .val (.ref wG6), .val (.ref b11), .val (.ref y_13), .val (.ref y_13)] [(.ref y_13)])) tgt
          refine XS.aload X13.here hx rfl (hb hby at_189) rfl rfl ?_
          exact kgo
        obtain ⟨cq16, kq16, q16a, q16b, q16c⟩ := isOf (s := (s.setVm T13.vm)) hZ13 rfl F13_164
        obtain ⟨_, _, ⟨T16, L16, k16, n16⟩, -, X16, ⟨Lc16, hQ16, l16, y16, z16⟩, st16⟩ := X13.virtualBack hx (y := (⟨"java/lang/String", "equals", "(Ljava/lang/Object;)Z"⟩ : MethodName)) (z := (⟨"java/lang/String", "equals", "(Ljava/lang/Object;)Z"⟩ : MethodName)) ho13 (mvT hZ13 (hw _ (List.mem_of_getElem? (i := 142) rfl))) (mvT hZ13 (hw _ (List.mem_of_getElem? (i := 143) rfl))) (notFace_of_selects (args := #[]) (mvT hZ13 (hw _ (List.mem_of_getElem? (i := 145) rfl)))) (mvT hZ13 (hw _ (List.mem_of_getElem? (i := 145) rfl))) (mvT hZ13 (hw _ (List.mem_of_getElem? (i := 144) rfl))) (by decide) (backOf (W := 0) (rm_eqsame l Z a0 hw [] wG1 wO2 wP5 wG3 wO4 wrG3 hstr wG5 wK5 wO5 wV5 wG6 wO6 wE6 wF6 hEL T13.heap n0 Ol13 y_13) hZ13 (hw _ (List.mem_of_getElem? (i := 146) rfl)) (hw _ (List.mem_of_getElem? (i := 6) rfl)) (by decide) (by decide)) q16a q16c (g := (mkF m 191 #[.val (.int p1), .val (.int p2), .val (.int p3), .val (.int p4), .val (.int (0 : Int32)), .val (.ref x_2), .val (.ref x_3), .val (.ref x_4), .val (.int kk), .val (.int z5_0), .val (.ref y_13), .val (.ref b7), .val (.ref wG6), .val (.ref b11), .val (.ref y_13), .val (.ref y_13)] [(.ref y_13), (.ref y_13)])) rfl (by rw [hml]; rfl) (Steps.refl _) (argsL := [(.ref y_13)]) (rest := []) (lenOf pd_81697300 rfl) rfl (by show 2 * 0 + _ ≤ _; exact Nat.le_of_eq rfl) (hb hby at_191) (fun _ _ => ⟨rfl, rfl, (by decide : 27 + 0 ≤ _), (by decide : 213 + 0 ≤ _)⟩)
        dsimp only [Pt.U, Pt.locs, Pt.cells, Pt.slots] at X16 l16 y16 z16 st16 hQ16
        subst l16 y16 z16
        obtain ⟨rfl, Nq16, eq16⟩ := hQ16
        refine OwnGoes.tr (T' := T16) (g' := (mkF m 194 #[.val (.int p1), .val (.int p2), .val (.int p3), .val (.int p4), .val (.int (0 : Int32)), .val (.ref x_2), .val (.ref x_3), .val (.ref x_4), .val (.int kk), .val (.int z5_0), .val (.ref y_13), .val (.ref b7), .val (.ref wG6), .val (.ref b11), .val (.ref y_13), .val (.ref y_13)] [(.int (1 : Int32))])) st16 ?_
        have N16 := Fr.app N13 Nq16
        refine OwnGoes.step (T' := T16) (g' := (mkF m 202 #[.val (.int p1), .val (.int p2), .val (.int p3), .val (.int p4), .val (.int (0 : Int32)), .val (.ref x_2), .val (.ref x_3), .val (.ref x_4), .val (.int kk), .val (.int z5_0), .val (.ref y_13), .val (.ref b7), .val (.ref wG6), .val (.ref b11), .val (.ref y_13), .val (.ref y_13)] [(.int (1 : Int32))])) (fun tgt kgo => ?_) ?_
        · show Steps p.tables e below (T16.setTop (mkF m 194 #[.val (.int p1), .val (.int p2), .val (.int p3), .val (.int p4), .val (.int (0 : Int32)), .val (.ref x_2), .val (.ref x_3), .val (.ref x_4), .val (.int kk), .val (.int z5_0), .val (.ref y_13), .val (.ref b7), .val (.ref wG6), .val (.ref b11), .val (.ref y_13), .val (.ref y_13)] [(.int (1 : Int32))])) tgt
          refine XS.ifNo X16.here hx rfl (hb hby at_194) rfl ((if0 _ _).trans (feq (by decide : ¬ ((1 : Int32) = (0 : Int32)))).1) ?_
          show Steps p.tables e below (T16.setTop (mkF m 197 #[.val (.int p1), .val (.int p2), .val (.int p3), .val (.int p4), .val (.int (0 : Int32)), .val (.ref x_2), .val (.ref x_3), .val (.ref x_4), .val (.int kk), .val (.int z5_0), .val (.ref y_13), .val (.ref b7), .val (.ref wG6), .val (.ref b11), .val (.ref y_13), .val (.ref y_13)] [])) tgt
          refine XS.iconst X16.here hx rfl (hb hby at_197) ?_
          show Steps p.tables e below (T16.setTop (mkF m 198 #[.val (.int p1), .val (.int p2), .val (.int p3), .val (.int p4), .val (.int (0 : Int32)), .val (.ref x_2), .val (.ref x_3), .val (.ref x_4), .val (.int kk), .val (.int z5_0), .val (.ref y_13), .val (.ref b7), .val (.ref wG6), .val (.ref b11), .val (.ref y_13), .val (.ref y_13)] [(.int (1 : Int32))])) tgt
          refine XS.goto X16.here hx rfl (pc0 := 198) (pc' := 202) rfl (hb hby at_198) (by decide) (by decide) ?_
          exact kgo
        refine own_leaveW (Z := Z) (EL := consts_1) X16 hS13 (eq16 ▸ (Nat.le_refl _)) hlk (v := some (.int (1 : Int32))) (fun h => by rw [Bd.returns] at h; cases h) (fun fs hr => retN X16 hx (t := .boolean) Bd.returns (by simp) (hb hby at_202) (by rw [(by decide : nar .boolean (1 : Int32) = (1 : Int32))]; exact hr)) (by decide) (by decide) ?_ ?_
        · rw [hh, eq16]
          exact R13.trans (CHv.at X16 hZ13 hEL R13.1)
        show Q_law Z p1 p2 p3 p4 h0 n0 _ T16.heap _
        rw [eq16]
        exact ⟨rfl, N16⟩
    by_cases cc18 : (((p4.toUInt32 >>> ((13 : Int32) &&& 31).toUInt32).toInt32) &&& (1 : Int32)) = (0 : Int32)
    · skip
      refine OwnGoes.step (T' := T4) (g' := (mkF m 79 #[.val (.int p1), .val (.int p2), .val (.int p3), .val (.int p4), .val (.int (0 : Int32)), .val (.ref x_2), .val (.ref x_3), .val (.ref x_4), .val (.int kk), .unset, .unset, .unset, .unset, .unset, .unset, .unset] [(.int (0 : Int32))])) (fun tgt kgo => ?_) ?_
      · show Steps p.tables e below (T4.setTop (mkF m 71 #[.val (.int p1), .val (.int p2), .val (.int p3), .val (.int p4), .val (.int (0 : Int32)), .val (.ref x_2), .val (.ref x_3), .val (.ref x_4), .val (.int kk), .unset, .unset, .unset, .unset, .unset, .unset, .unset] [(.int (((p4.toUInt32 >>> ((13 : Int32) &&& 31).toUInt32).toInt32) &&& (1 : Int32)))])) tgt
        refine XS.ifYes X4.here hx rfl (pc0 := 71) (pc' := 78) rfl (hb hby at_71) rfl ((if0 _ _).trans (teq cc18).1) (by decide) (by decide) ?_
        show Steps p.tables e below (T4.setTop (mkF m 78 #[.val (.int p1), .val (.int p2), .val (.int p3), .val (.int p4), .val (.int (0 : Int32)), .val (.ref x_2), .val (.ref x_3), .val (.ref x_4), .val (.int kk), .unset, .unset, .unset, .unset, .unset, .unset, .unset] [])) tgt
        refine XS.iconst X4.here hx rfl (hb hby at_78) ?_
        exact kgo
      exact hj5 (0 : Int32)
    · skip
      refine OwnGoes.step (T' := T4) (g' := (mkF m 79 #[.val (.int p1), .val (.int p2), .val (.int p3), .val (.int p4), .val (.int (0 : Int32)), .val (.ref x_2), .val (.ref x_3), .val (.ref x_4), .val (.int kk), .unset, .unset, .unset, .unset, .unset, .unset, .unset] [(.int (1 : Int32))])) (fun tgt kgo => ?_) ?_
      · show Steps p.tables e below (T4.setTop (mkF m 71 #[.val (.int p1), .val (.int p2), .val (.int p3), .val (.int p4), .val (.int (0 : Int32)), .val (.ref x_2), .val (.ref x_3), .val (.ref x_4), .val (.int kk), .unset, .unset, .unset, .unset, .unset, .unset, .unset] [(.int (((p4.toUInt32 >>> ((13 : Int32) &&& 31).toUInt32).toInt32) &&& (1 : Int32)))])) tgt
        refine XS.ifNo X4.here hx rfl (hb hby at_71) rfl ((if0 _ _).trans (feq cc18).1) ?_
        show Steps p.tables e below (T4.setTop (mkF m 74 #[.val (.int p1), .val (.int p2), .val (.int p3), .val (.int p4), .val (.int (0 : Int32)), .val (.ref x_2), .val (.ref x_3), .val (.ref x_4), .val (.int kk), .unset, .unset, .unset, .unset, .unset, .unset, .unset] [])) tgt
        refine XS.iconst X4.here hx rfl (hb hby at_74) ?_
        show Steps p.tables e below (T4.setTop (mkF m 75 #[.val (.int p1), .val (.int p2), .val (.int p3), .val (.int p4), .val (.int (0 : Int32)), .val (.ref x_2), .val (.ref x_3), .val (.ref x_4), .val (.int kk), .unset, .unset, .unset, .unset, .unset, .unset, .unset] [(.int (1 : Int32))])) tgt
        refine XS.goto X4.here hx rfl (pc0 := 75) (pc' := 79) rfl (hb hby at_75) (by decide) (by decide) ?_
        exact kgo
      exact hj5 (1 : Int32)
  · skip
    refine OwnGoes.step (T' := s₁) (g' := (mkF m 22 #[.val (.int p1), .val (.int p2), .val (.int p3), .val (.int p4), .val (.int (1 : Int32)), .unset, .unset, .unset, .unset, .unset, .unset, .unset, .unset, .unset, .unset, .unset] [(.int ((((p4.toUInt32 >>> ((1 : Int32) &&& 31).toUInt32).toInt32) &&& (7 : Int32)) % (5 : Int32))), (.int p1)])) (fun tgt kgo => ?_) ?_
    · show Steps p.tables e below (s₁.setTop (mkF m 3 #[.val (.int p1), .val (.int p2), .val (.int p3), .val (.int p4), .unset, .unset, .unset, .unset, .unset, .unset, .unset, .unset, .unset, .unset, .unset, .unset] [(.int (p4 &&& (1 : Int32)))])) tgt
      refine XS.ifNo X0.here hx rfl (hb hby at_3) rfl ((if0 _ _).trans (feq cc1).1) ?_
      show Steps p.tables e below (s₁.setTop (mkF m 6 #[.val (.int p1), .val (.int p2), .val (.int p3), .val (.int p4), .unset, .unset, .unset, .unset, .unset, .unset, .unset, .unset, .unset, .unset, .unset, .unset] [])) tgt
      refine XS.iconst X0.here hx rfl (hb hby at_6) ?_
      show Steps p.tables e below (s₁.setTop (mkF m 7 #[.val (.int p1), .val (.int p2), .val (.int p3), .val (.int p4), .unset, .unset, .unset, .unset, .unset, .unset, .unset, .unset, .unset, .unset, .unset, .unset] [(.int (1 : Int32))])) tgt
      refine XS.goto X0.here hx rfl (pc0 := 7) (pc' := 11) rfl (hb hby at_7) (by decide) (by decide) ?_
      show Steps p.tables e below (s₁.setTop (mkF m 11 #[.val (.int p1), .val (.int p2), .val (.int p3), .val (.int p4), .unset, .unset, .unset, .unset, .unset, .unset, .unset, .unset, .unset, .unset, .unset, .unset] [(.int (1 : Int32))])) tgt
      refine XS.istore X0.here hx rfl (hb hby at_11) rfl (l' := #[.val (.int p1), .val (.int p2), .val (.int p3), .val (.int p4), .val (.int (1 : Int32)), .unset, .unset, .unset, .unset, .unset, .unset, .unset, .unset, .unset, .unset, .unset]) rfl ?_
      show Steps p.tables e below (s₁.setTop (mkF m 13 #[.val (.int p1), .val (.int p2), .val (.int p3), .val (.int p4), .val (.int (1 : Int32)), .unset, .unset, .unset, .unset, .unset, .unset, .unset, .unset, .unset, .unset, .unset] [])) tgt
      refine XS.iloadN X0.here hx rfl (hb hby at_13) rfl ?_
      show Steps p.tables e below (s₁.setTop (mkF m 14 #[.val (.int p1), .val (.int p2), .val (.int p3), .val (.int p4), .val (.int (1 : Int32)), .unset, .unset, .unset, .unset, .unset, .unset, .unset, .unset, .unset, .unset, .unset] [(.int p1)])) tgt
      refine XS.iloadN X0.here hx rfl (hb hby at_14) rfl ?_
      show Steps p.tables e below (s₁.setTop (mkF m 15 #[.val (.int p1), .val (.int p2), .val (.int p3), .val (.int p4), .val (.int (1 : Int32)), .unset, .unset, .unset, .unset, .unset, .unset, .unset, .unset, .unset, .unset, .unset] [(.int p4), (.int p1)])) tgt
      refine XS.iconst X0.here hx rfl (hb hby at_15) ?_
      show Steps p.tables e below (s₁.setTop (mkF m 16 #[.val (.int p1), .val (.int p2), .val (.int p3), .val (.int p4), .val (.int (1 : Int32)), .unset, .unset, .unset, .unset, .unset, .unset, .unset, .unset, .unset, .unset, .unset] [(.int (1 : Int32)), (.int p4), (.int p1)])) tgt
      refine XS.iushr X0.here hx rfl (hb hby at_16) rfl ?_
      show Steps p.tables e below (s₁.setTop (mkF m 17 #[.val (.int p1), .val (.int p2), .val (.int p3), .val (.int p4), .val (.int (1 : Int32)), .unset, .unset, .unset, .unset, .unset, .unset, .unset, .unset, .unset, .unset, .unset] [(.int ((p4.toUInt32 >>> ((1 : Int32) &&& 31).toUInt32).toInt32)), (.int p1)])) tgt
      refine XS.bipush X0.here hx rfl (hb hby at_17) ?_
      show Steps p.tables e below (s₁.setTop (mkF m 19 #[.val (.int p1), .val (.int p2), .val (.int p3), .val (.int p4), .val (.int (1 : Int32)), .unset, .unset, .unset, .unset, .unset, .unset, .unset, .unset, .unset, .unset, .unset] [(.int (7 : Int32)), (.int ((p4.toUInt32 >>> ((1 : Int32) &&& 31).toUInt32).toInt32)), (.int p1)])) tgt
      refine XS.iand X0.here hx rfl (hb hby at_19) rfl ?_
      show Steps p.tables e below (s₁.setTop (mkF m 20 #[.val (.int p1), .val (.int p2), .val (.int p3), .val (.int p4), .val (.int (1 : Int32)), .unset, .unset, .unset, .unset, .unset, .unset, .unset, .unset, .unset, .unset, .unset] [(.int (((p4.toUInt32 >>> ((1 : Int32) &&& 31).toUInt32).toInt32) &&& (7 : Int32))), (.int p1)])) tgt
      refine XS.iconst X0.here hx rfl (hb hby at_20) ?_
      show Steps p.tables e below (s₁.setTop (mkF m 21 #[.val (.int p1), .val (.int p2), .val (.int p3), .val (.int p4), .val (.int (1 : Int32)), .unset, .unset, .unset, .unset, .unset, .unset, .unset, .unset, .unset, .unset, .unset] [(.int (5 : Int32)), (.int (((p4.toUInt32 >>> ((1 : Int32) &&& 31).toUInt32).toInt32) &&& (7 : Int32))), (.int p1)])) tgt
      refine iremM X0 hx rfl (hb hby at_21) rfl (by decide) ?_
      exact kgo
    obtain ⟨_, _, ⟨T19, L19, k19, n19⟩, -, X19, Si19, Gr19, ⟨Lc19, hQ19, l19, y19, z19, Rc19⟩, st19⟩ := callSS X0 hx (y := (⟨"com/example/veilstone/veilstone/fhir/ElementElementsOfPinLaw", "str", "(II)Ljava/lang/String;"⟩ : MethodName)) hown (mvT hZ (hw _ (List.mem_of_getElem? (i := 0) rfl))) (mvT hZ (hw _ (List.mem_of_getElem? (i := 1) rfl))) (mvT hZ (hw _ (List.mem_of_getElem? (i := 2) rfl))) (mvT hZ (hw _ (List.mem_of_getElem? (i := 3) rfl))) (by decide) (backOfSH (W := 0) (rm_str l Z a0 hw [] wG1 wO2 wP5 wG3 wO4 wrG3 hstr wG5 wK5 wO5 wV5 wG6 wO6 wE6 wF6 hEL h0 n0 X00 p1 ((((p4.toUInt32 >>> ((1 : Int32) &&& 31).toUInt32).toInt32) &&& (7 : Int32)) % (5 : Int32))) hZ (hw _ (List.mem_of_getElem? (i := 3) rfl)) (hw _ (List.mem_of_getElem? (i := 2) rfl)) (by decide) (by decide) hEL R0.1) (g := (mkF m 22 #[.val (.int p1), .val (.int p2), .val (.int p3), .val (.int p4), .val (.int (1 : Int32)), .unset, .unset, .unset, .unset, .unset, .unset, .unset, .unset, .unset, .unset, .unset] [(.int ((((p4.toUInt32 >>> ((1 : Int32) &&& 31).toUInt32).toInt32) &&& (7 : Int32)) % (5 : Int32))), (.int p1)])) rfl (by rw [hml]; rfl) (argsL := [(.int p1), (.int ((((p4.toUInt32 >>> ((1 : Int32) &&& 31).toUInt32).toInt32) &&& (7 : Int32)) % (5 : Int32)))]) (rest := []) (lenOf pd_28541291 rfl) rfl (by show 2 * 0 + _ ≤ _; exact Nat.le_of_eq rfl) (hb hby at_22) (fun _ _ => ⟨rfl, e0, (by decide : 0 + 6 ≤ _), (by decide : 0 + 12 ≤ _)⟩)
    dsimp only [Pt.U, Pt.locs, Pt.cells, Pt.slots] at X19 l19 y19 z19 st19 hQ19 Si19 Gr19 Rc19
    subst l19 y19 z19
    obtain ⟨x_19, t_19, k_19, N_19, vs_19, cs_19, rfl, Nq19, Kq19, zq19_0, fq19_0, fq19_1, fq19_2, fq19_3, pq19_0, pq19_1⟩ := hQ19
    refine OwnGoes.tr (T' := T19) (g' := (mkF m 25 #[.val (.int p1), .val (.int p2), .val (.int p3), .val (.int p4), .val (.int (1 : Int32)), .unset, .unset, .unset, .unset, .unset, .unset, .unset, .unset, .unset, .unset, .unset] [(.ref x_19)])) st19 ?_
    have N19 := Fr.app N0 Nq19
    have ne_wG5_x_19 : wG5 ≠ x_19 := Nat.ne_of_lt (Nat.lt_of_lt_of_le fg_wG5_0.lt zq19_0)
    have ne_wG6_x_19 : wG6 ≠ x_19 := Nat.ne_of_lt (Nat.lt_of_lt_of_le fg_wG6_0.lt zq19_0)
    have g_x_19 : n0 ≤ x_19 := Nat.le_trans (Nat.le_trans Z0 K0.1) zq19_0
    have s_x_19 : h0.size ≤ x_19 := Nat.le_trans K0.1 zq19_0
    have gz19 : h0.size ≤ T19.heap.size := Rc19.2.1
    obtain ⟨X19, hS19, hZ19, ho19⟩ := rebS hS0 hk0 X19 Si19 gz19 hZ hown
    have F19_174 := fg_wG5_0.keep Kq19 nin0
    have F19_175 := fg_wG6_0.keep Kq19
    have F19_176 := fg_wG6_1.keep Kq19 nin0
    have Ol19 := X00.keep Kq19 all0
    have K19 : Keep h0 T19.heap ([] : List Addr) := K0.trans Kq19 all0
    have R19 := R0.trans Rc19
    refine OwnGoes.step (T' := T19) (g' := (mkF m 36 #[.val (.int p1), .val (.int p2), .val (.int p3), .val (.int p4), .val (.int (1 : Int32)), .val (.ref x_19), .unset, .unset, .unset, .unset, .unset, .unset, .unset, .unset, .unset, .unset] [(.int ((((p4.toUInt32 >>> ((4 : Int32) &&& 31).toUInt32).toInt32) &&& (7 : Int32)) % (5 : Int32))), (.int p2)])) (fun tgt kgo => ?_) ?_
    · show Steps p.tables e below (T19.setTop (mkF m 25 #[.val (.int p1), .val (.int p2), .val (.int p3), .val (.int p4), .val (.int (1 : Int32)), .unset, .unset, .unset, .unset, .unset, .unset, .unset, .unset, .unset, .unset, .unset] [(.ref x_19)])) tgt
      refine XS.astore X19.here hx rfl (hb hby at_25) rfl rfl (l' := #[.val (.int p1), .val (.int p2), .val (.int p3), .val (.int p4), .val (.int (1 : Int32)), .val (.ref x_19), .unset, .unset, .unset, .unset, .unset, .unset, .unset, .unset, .unset, .unset]) rfl ?_
      show Steps p.tables e below (T19.setTop (mkF m 27 #[.val (.int p1), .val (.int p2), .val (.int p3), .val (.int p4), .val (.int (1 : Int32)), .val (.ref x_19), .unset, .unset, .unset, .unset, .unset, .unset, .unset, .unset, .unset, .unset] [])) tgt
      refine XS.iloadN X19.here hx rfl (hb hby at_27) rfl ?_
      show Steps p.tables e below (T19.setTop (mkF m 28 #[.val (.int p1), .val (.int p2), .val (.int p3), .val (.int p4), .val (.int (1 : Int32)), .val (.ref x_19), .unset, .unset, .unset, .unset, .unset, .unset, .unset, .unset, .unset, .unset] [(.int p2)])) tgt
      refine XS.iloadN X19.here hx rfl (hb hby at_28) rfl ?_
      show Steps p.tables e below (T19.setTop (mkF m 29 #[.val (.int p1), .val (.int p2), .val (.int p3), .val (.int p4), .val (.int (1 : Int32)), .val (.ref x_19), .unset, .unset, .unset, .unset, .unset, .unset, .unset, .unset, .unset, .unset] [(.int p4), (.int p2)])) tgt
      refine XS.iconst X19.here hx rfl (hb hby at_29) ?_
      show Steps p.tables e below (T19.setTop (mkF m 30 #[.val (.int p1), .val (.int p2), .val (.int p3), .val (.int p4), .val (.int (1 : Int32)), .val (.ref x_19), .unset, .unset, .unset, .unset, .unset, .unset, .unset, .unset, .unset, .unset] [(.int (4 : Int32)), (.int p4), (.int p2)])) tgt
      refine XS.iushr X19.here hx rfl (hb hby at_30) rfl ?_
      show Steps p.tables e below (T19.setTop (mkF m 31 #[.val (.int p1), .val (.int p2), .val (.int p3), .val (.int p4), .val (.int (1 : Int32)), .val (.ref x_19), .unset, .unset, .unset, .unset, .unset, .unset, .unset, .unset, .unset, .unset] [(.int ((p4.toUInt32 >>> ((4 : Int32) &&& 31).toUInt32).toInt32)), (.int p2)])) tgt
      refine XS.bipush X19.here hx rfl (hb hby at_31) ?_
      show Steps p.tables e below (T19.setTop (mkF m 33 #[.val (.int p1), .val (.int p2), .val (.int p3), .val (.int p4), .val (.int (1 : Int32)), .val (.ref x_19), .unset, .unset, .unset, .unset, .unset, .unset, .unset, .unset, .unset, .unset] [(.int (7 : Int32)), (.int ((p4.toUInt32 >>> ((4 : Int32) &&& 31).toUInt32).toInt32)), (.int p2)])) tgt
      refine XS.iand X19.here hx rfl (hb hby at_33) rfl ?_
      show Steps p.tables e below (T19.setTop (mkF m 34 #[.val (.int p1), .val (.int p2), .val (.int p3), .val (.int p4), .val (.int (1 : Int32)), .val (.ref x_19), .unset, .unset, .unset, .unset, .unset, .unset, .unset, .unset, .unset, .unset] [(.int (((p4.toUInt32 >>> ((4 : Int32) &&& 31).toUInt32).toInt32) &&& (7 : Int32))), (.int p2)])) tgt
      refine XS.iconst X19.here hx rfl (hb hby at_34) ?_
      show Steps p.tables e below (T19.setTop (mkF m 35 #[.val (.int p1), .val (.int p2), .val (.int p3), .val (.int p4), .val (.int (1 : Int32)), .val (.ref x_19), .unset, .unset, .unset, .unset, .unset, .unset, .unset, .unset, .unset, .unset] [(.int (5 : Int32)), (.int (((p4.toUInt32 >>> ((4 : Int32) &&& 31).toUInt32).toInt32) &&& (7 : Int32))), (.int p2)])) tgt
      refine iremM X19 hx rfl (hb hby at_35) rfl (by decide) ?_
      exact kgo
    obtain ⟨_, _, ⟨T20, L20, k20, n20⟩, -, X20, Si20, Gr20, ⟨Lc20, hQ20, l20, y20, z20, Rc20⟩, st20⟩ := callSS X19 hx (y := (⟨"com/example/veilstone/veilstone/fhir/ElementElementsOfPinLaw", "str", "(II)Ljava/lang/String;"⟩ : MethodName)) ho19 (mvT hZ19 (hw _ (List.mem_of_getElem? (i := 0) rfl))) (mvT hZ19 (hw _ (List.mem_of_getElem? (i := 1) rfl))) (mvT hZ19 (hw _ (List.mem_of_getElem? (i := 2) rfl))) (mvT hZ19 (hw _ (List.mem_of_getElem? (i := 3) rfl))) (by decide) (backOfSH (W := 0) (rm_str l Z a0 hw [] wG1 wO2 wP5 wG3 wO4 wrG3 hstr wG5 wK5 wO5 wV5 wG6 wO6 wE6 wF6 hEL T19.heap n0 Ol19 p2 ((((p4.toUInt32 >>> ((4 : Int32) &&& 31).toUInt32).toInt32) &&& (7 : Int32)) % (5 : Int32))) hZ19 (hw _ (List.mem_of_getElem? (i := 3) rfl)) (hw _ (List.mem_of_getElem? (i := 2) rfl)) (by decide) (by decide) hEL R19.1) (g := (mkF m 36 #[.val (.int p1), .val (.int p2), .val (.int p3), .val (.int p4), .val (.int (1 : Int32)), .val (.ref x_19), .unset, .unset, .unset, .unset, .unset, .unset, .unset, .unset, .unset, .unset] [(.int ((((p4.toUInt32 >>> ((4 : Int32) &&& 31).toUInt32).toInt32) &&& (7 : Int32)) % (5 : Int32))), (.int p2)])) rfl (by rw [hml]; rfl) (argsL := [(.int p2), (.int ((((p4.toUInt32 >>> ((4 : Int32) &&& 31).toUInt32).toInt32) &&& (7 : Int32)) % (5 : Int32)))]) (rest := []) (lenOf pd_28541291 rfl) rfl (by show 2 * 0 + _ ≤ _; exact Nat.le_of_eq rfl) (hb hby at_36) (fun _ _ => ⟨rfl, rfl, (by decide : 6 + 6 ≤ _), (by decide : 12 + 12 ≤ _)⟩)
    dsimp only [Pt.U, Pt.locs, Pt.cells, Pt.slots] at X20 l20 y20 z20 st20 hQ20 Si20 Gr20 Rc20
    subst l20 y20 z20
    obtain ⟨x_20, t_20, k_20, N_20, vs_20, cs_20, rfl, Nq20, Kq20, zq20_0, fq20_0, fq20_1, fq20_2, fq20_3, pq20_0, pq20_1⟩ := hQ20
    refine OwnGoes.tr (T' := T20) (g' := (mkF m 39 #[.val (.int p1), .val (.int p2), .val (.int p3), .val (.int p4), .val (.int (1 : Int32)), .val (.ref x_19), .unset, .unset, .unset, .unset, .unset, .unset, .unset, .unset, .unset, .unset] [(.ref x_20)])) st20 ?_
    have N20 := Fr.app N19 Nq20
    have ne_wG5_x_20 : wG5 ≠ x_20 := Nat.ne_of_lt (Nat.lt_of_lt_of_le F19_174.lt zq20_0)
    have ne_wG6_x_20 : wG6 ≠ x_20 := Nat.ne_of_lt (Nat.lt_of_lt_of_le F19_175.lt zq20_0)
    have ne_x_19_x_20 : x_19 ≠ x_20 := Nat.ne_of_lt (Nat.lt_of_lt_of_le fq19_0.lt zq20_0)
    have ne_t_19_x_20 : t_19 ≠ x_20 := Nat.ne_of_lt (Nat.lt_of_lt_of_le fq19_3.lt zq20_0)
    have g_x_20 : n0 ≤ x_20 := Nat.le_trans (Nat.le_trans Z0 K19.1) zq20_0
    have s_x_20 : h0.size ≤ x_20 := Nat.le_trans K19.1 zq20_0
    have gz20 : T19.heap.size ≤ T20.heap.size := Rc20.2.1
    obtain ⟨X20, hS20, hZ20, ho20⟩ := rebS hS19 (Nat.le_refl _) X20 Si20 gz20 hZ19 ho19
    have F20_177 := F19_174.keep Kq20 nin0
    have F20_178 := F19_175.keep Kq20
    have F20_179 := F19_176.keep Kq20 nin0
    have F20_180 := fq19_0.keep Kq20
    have F20_181 := fq19_1.keep Kq20 nin0
    have F20_182 := fq19_2.keep Kq20 nin0
    have F20_183 := fq19_3.keep Kq20 nin0
    have Ol20 := Ol19.keep Kq20 all0
    have K20 : Keep h0 T20.heap ([] : List Addr) := K19.trans Kq20 all0
    have R20 := R19.trans Rc20
    refine OwnGoes.step (T' := T20) (g' := (mkF m 51 #[.val (.int p1), .val (.int p2), .val (.int p3), .val (.int p4), .val (.int (1 : Int32)), .val (.ref x_19), .val (.ref x_20), .unset, .unset, .unset, .unset, .unset, .unset, .unset, .unset, .unset] [(.int ((((p4.toUInt32 >>> ((7 : Int32) &&& 31).toUInt32).toInt32) &&& (7 : Int32)) % (5 : Int32))), (.int p3)])) (fun tgt kgo => ?_) ?_
    · show Steps p.tables e below (T20.setTop (mkF m 39 #[.val (.int p1), .val (.int p2), .val (.int p3), .val (.int p4), .val (.int (1 : Int32)), .val (.ref x_19), .unset, .unset, .unset, .unset, .unset, .unset, .unset, .unset, .unset, .unset] [(.ref x_20)])) tgt
      refine XS.astore X20.here hx rfl (hb hby at_39) rfl rfl (l' := #[.val (.int p1), .val (.int p2), .val (.int p3), .val (.int p4), .val (.int (1 : Int32)), .val (.ref x_19), .val (.ref x_20), .unset, .unset, .unset, .unset, .unset, .unset, .unset, .unset, .unset]) rfl ?_
      show Steps p.tables e below (T20.setTop (mkF m 41 #[.val (.int p1), .val (.int p2), .val (.int p3), .val (.int p4), .val (.int (1 : Int32)), .val (.ref x_19), .val (.ref x_20), .unset, .unset, .unset, .unset, .unset, .unset, .unset, .unset, .unset] [])) tgt
      refine XS.iloadN X20.here hx rfl (hb hby at_41) rfl ?_
      show Steps p.tables e below (T20.setTop (mkF m 42 #[.val (.int p1), .val (.int p2), .val (.int p3), .val (.int p4), .val (.int (1 : Int32)), .val (.ref x_19), .val (.ref x_20), .unset, .unset, .unset, .unset, .unset, .unset, .unset, .unset, .unset] [(.int p3)])) tgt
      refine XS.iloadN X20.here hx rfl (hb hby at_42) rfl ?_
      show Steps p.tables e below (T20.setTop (mkF m 43 #[.val (.int p1), .val (.int p2), .val (.int p3), .val (.int p4), .val (.int (1 : Int32)), .val (.ref x_19), .val (.ref x_20), .unset, .unset, .unset, .unset, .unset, .unset, .unset, .unset, .unset] [(.int p4), (.int p3)])) tgt
      refine XS.bipush X20.here hx rfl (hb hby at_43) ?_
      show Steps p.tables e below (T20.setTop (mkF m 45 #[.val (.int p1), .val (.int p2), .val (.int p3), .val (.int p4), .val (.int (1 : Int32)), .val (.ref x_19), .val (.ref x_20), .unset, .unset, .unset, .unset, .unset, .unset, .unset, .unset, .unset] [(.int (7 : Int32)), (.int p4), (.int p3)])) tgt
      refine XS.iushr X20.here hx rfl (hb hby at_45) rfl ?_
      show Steps p.tables e below (T20.setTop (mkF m 46 #[.val (.int p1), .val (.int p2), .val (.int p3), .val (.int p4), .val (.int (1 : Int32)), .val (.ref x_19), .val (.ref x_20), .unset, .unset, .unset, .unset, .unset, .unset, .unset, .unset, .unset] [(.int ((p4.toUInt32 >>> ((7 : Int32) &&& 31).toUInt32).toInt32)), (.int p3)])) tgt
      refine XS.bipush X20.here hx rfl (hb hby at_46) ?_
      show Steps p.tables e below (T20.setTop (mkF m 48 #[.val (.int p1), .val (.int p2), .val (.int p3), .val (.int p4), .val (.int (1 : Int32)), .val (.ref x_19), .val (.ref x_20), .unset, .unset, .unset, .unset, .unset, .unset, .unset, .unset, .unset] [(.int (7 : Int32)), (.int ((p4.toUInt32 >>> ((7 : Int32) &&& 31).toUInt32).toInt32)), (.int p3)])) tgt
      refine XS.iand X20.here hx rfl (hb hby at_48) rfl ?_
      show Steps p.tables e below (T20.setTop (mkF m 49 #[.val (.int p1), .val (.int p2), .val (.int p3), .val (.int p4), .val (.int (1 : Int32)), .val (.ref x_19), .val (.ref x_20), .unset, .unset, .unset, .unset, .unset, .unset, .unset, .unset, .unset] [(.int (((p4.toUInt32 >>> ((7 : Int32) &&& 31).toUInt32).toInt32) &&& (7 : Int32))), (.int p3)])) tgt
      refine XS.iconst X20.here hx rfl (hb hby at_49) ?_
      show Steps p.tables e below (T20.setTop (mkF m 50 #[.val (.int p1), .val (.int p2), .val (.int p3), .val (.int p4), .val (.int (1 : Int32)), .val (.ref x_19), .val (.ref x_20), .unset, .unset, .unset, .unset, .unset, .unset, .unset, .unset, .unset] [(.int (5 : Int32)), (.int (((p4.toUInt32 >>> ((7 : Int32) &&& 31).toUInt32).toInt32) &&& (7 : Int32))), (.int p3)])) tgt
      refine iremM X20 hx rfl (hb hby at_50) rfl (by decide) ?_
      exact kgo
    obtain ⟨_, _, ⟨T21, L21, k21, n21⟩, -, X21, Si21, Gr21, ⟨Lc21, hQ21, l21, y21, z21, Rc21⟩, st21⟩ := callSS X20 hx (y := (⟨"com/example/veilstone/veilstone/fhir/ElementElementsOfPinLaw", "str", "(II)Ljava/lang/String;"⟩ : MethodName)) ho20 (mvT hZ20 (hw _ (List.mem_of_getElem? (i := 0) rfl))) (mvT hZ20 (hw _ (List.mem_of_getElem? (i := 1) rfl))) (mvT hZ20 (hw _ (List.mem_of_getElem? (i := 2) rfl))) (mvT hZ20 (hw _ (List.mem_of_getElem? (i := 3) rfl))) (by decide) (backOfSH (W := 0) (rm_str l Z a0 hw [] wG1 wO2 wP5 wG3 wO4 wrG3 hstr wG5 wK5 wO5 wV5 wG6 wO6 wE6 wF6 hEL T20.heap n0 Ol20 p3 ((((p4.toUInt32 >>> ((7 : Int32) &&& 31).toUInt32).toInt32) &&& (7 : Int32)) % (5 : Int32))) hZ20 (hw _ (List.mem_of_getElem? (i := 3) rfl)) (hw _ (List.mem_of_getElem? (i := 2) rfl)) (by decide) (by decide) hEL R20.1) (g := (mkF m 51 #[.val (.int p1), .val (.int p2), .val (.int p3), .val (.int p4), .val (.int (1 : Int32)), .val (.ref x_19), .val (.ref x_20), .unset, .unset, .unset, .unset, .unset, .unset, .unset, .unset, .unset] [(.int ((((p4.toUInt32 >>> ((7 : Int32) &&& 31).toUInt32).toInt32) &&& (7 : Int32)) % (5 : Int32))), (.int p3)])) rfl (by rw [hml]; rfl) (argsL := [(.int p3), (.int ((((p4.toUInt32 >>> ((7 : Int32) &&& 31).toUInt32).toInt32) &&& (7 : Int32)) % (5 : Int32)))]) (rest := []) (lenOf pd_28541291 rfl) rfl (by show 2 * 0 + _ ≤ _; exact Nat.le_of_eq rfl) (hb hby at_51) (fun _ _ => ⟨rfl, rfl, (by decide : 12 + 6 ≤ _), (by decide : 24 + 12 ≤ _)⟩)
    dsimp only [Pt.U, Pt.locs, Pt.cells, Pt.slots] at X21 l21 y21 z21 st21 hQ21 Si21 Gr21 Rc21
    subst l21 y21 z21
    obtain ⟨x_21, t_21, k_21, N_21, vs_21, cs_21, rfl, Nq21, Kq21, zq21_0, fq21_0, fq21_1, fq21_2, fq21_3, pq21_0, pq21_1⟩ := hQ21
    refine OwnGoes.tr (T' := T21) (g' := (mkF m 54 #[.val (.int p1), .val (.int p2), .val (.int p3), .val (.int p4), .val (.int (1 : Int32)), .val (.ref x_19), .val (.ref x_20), .unset, .unset, .unset, .unset, .unset, .unset, .unset, .unset, .unset] [(.ref x_21)])) st21 ?_
    have N21 := Fr.app N20 Nq21
    have ne_wG5_x_21 : wG5 ≠ x_21 := Nat.ne_of_lt (Nat.lt_of_lt_of_le F20_177.lt zq21_0)
    have ne_wG6_x_21 : wG6 ≠ x_21 := Nat.ne_of_lt (Nat.lt_of_lt_of_le F20_178.lt zq21_0)
    have ne_x_19_x_21 : x_19 ≠ x_21 := Nat.ne_of_lt (Nat.lt_of_lt_of_le F20_180.lt zq21_0)
    have ne_t_19_x_21 : t_19 ≠ x_21 := Nat.ne_of_lt (Nat.lt_of_lt_of_le F20_183.lt zq21_0)
    have ne_x_20_x_21 : x_20 ≠ x_21 := Nat.ne_of_lt (Nat.lt_of_lt_of_le fq20_0.lt zq21_0)
    have ne_t_20_x_21 : t_20 ≠ x_21 := Nat.ne_of_lt (Nat.lt_of_lt_of_le fq20_3.lt zq21_0)
    have g_x_21 : n0 ≤ x_21 := Nat.le_trans (Nat.le_trans Z0 K20.1) zq21_0
    have s_x_21 : h0.size ≤ x_21 := Nat.le_trans K20.1 zq21_0
    have gz21 : T20.heap.size ≤ T21.heap.size := Rc21.2.1
    obtain ⟨X21, hS21, hZ21, ho21⟩ := rebS hS20 (Nat.le_refl _) X21 Si21 gz21 hZ20 ho20
    have F21_184 := F20_177.keep Kq21 nin0
    have F21_185 := F20_178.keep Kq21
    have F21_186 := F20_179.keep Kq21 nin0
    have F21_187 := F20_180.keep Kq21
    have F21_188 := F20_181.keep Kq21 nin0
    have F21_189 := F20_182.keep Kq21 nin0
    have F21_190 := F20_183.keep Kq21 nin0
    have F21_191 := fq20_0.keep Kq21
    have F21_192 := fq20_1.keep Kq21 nin0
    have F21_193 := fq20_2.keep Kq21 nin0
    have F21_194 := fq20_3.keep Kq21 nin0
    have Ol21 := Ol20.keep Kq21 all0
    have K21 : Keep h0 T21.heap ([] : List Addr) := K20.trans Kq21 all0
    have R21 := R20.trans Rc21
    refine OwnGoes.step (T' := T21) (g' := (mkF m 63 #[.val (.int p1), .val (.int p2), .val (.int p3), .val (.int p4), .val (.int (1 : Int32)), .val (.ref x_19), .val (.ref x_20), .val (.ref x_21), .unset, .unset, .unset, .unset, .unset, .unset, .unset, .unset] [(.int (((p4.toUInt32 >>> ((10 : Int32) &&& 31).toUInt32).toInt32) &&& (7 : Int32)))])) (fun tgt kgo => ?_) ?_
    · show Steps p.tables e below (T21.setTop (mkF m 54 #[.val (.int p1), .val (.int p2), .val (.int p3), .val (.int p4), .val (.int (1 : Int32)), .val (.ref x_19), .val (.ref x_20), .unset, .unset, .unset, .unset, .unset, .unset, .unset, .unset, .unset] [(.ref x_21)])) tgt
      refine XS.astore X21.here hx rfl (hb hby at_54) rfl rfl (l' := #[.val (.int p1), .val (.int p2), .val (.int p3), .val (.int p4), .val (.int (1 : Int32)), .val (.ref x_19), .val (.ref x_20), .val (.ref x_21), .unset, .unset, .unset, .unset, .unset, .unset, .unset, .unset]) rfl ?_
      show Steps p.tables e below (T21.setTop (mkF m 56 #[.val (.int p1), .val (.int p2), .val (.int p3), .val (.int p4), .val (.int (1 : Int32)), .val (.ref x_19), .val (.ref x_20), .val (.ref x_21), .unset, .unset, .unset, .unset, .unset, .unset, .unset, .unset] [])) tgt
      refine XS.iloadN X21.here hx rfl (hb hby at_56) rfl ?_
      show Steps p.tables e below (T21.setTop (mkF m 57 #[.val (.int p1), .val (.int p2), .val (.int p3), .val (.int p4), .val (.int (1 : Int32)), .val (.ref x_19), .val (.ref x_20), .val (.ref x_21), .unset, .unset, .unset, .unset, .unset, .unset, .unset, .unset] [(.int p4)])) tgt
      refine XS.bipush X21.here hx rfl (hb hby at_57) ?_
      show Steps p.tables e below (T21.setTop (mkF m 59 #[.val (.int p1), .val (.int p2), .val (.int p3), .val (.int p4), .val (.int (1 : Int32)), .val (.ref x_19), .val (.ref x_20), .val (.ref x_21), .unset, .unset, .unset, .unset, .unset, .unset, .unset, .unset] [(.int (10 : Int32)), (.int p4)])) tgt
      refine XS.iushr X21.here hx rfl (hb hby at_59) rfl ?_
      show Steps p.tables e below (T21.setTop (mkF m 60 #[.val (.int p1), .val (.int p2), .val (.int p3), .val (.int p4), .val (.int (1 : Int32)), .val (.ref x_19), .val (.ref x_20), .val (.ref x_21), .unset, .unset, .unset, .unset, .unset, .unset, .unset, .unset] [(.int ((p4.toUInt32 >>> ((10 : Int32) &&& 31).toUInt32).toInt32))])) tgt
      refine XS.bipush X21.here hx rfl (hb hby at_60) ?_
      show Steps p.tables e below (T21.setTop (mkF m 62 #[.val (.int p1), .val (.int p2), .val (.int p3), .val (.int p4), .val (.int (1 : Int32)), .val (.ref x_19), .val (.ref x_20), .val (.ref x_21), .unset, .unset, .unset, .unset, .unset, .unset, .unset, .unset] [(.int (7 : Int32)), (.int ((p4.toUInt32 >>> ((10 : Int32) &&& 31).toUInt32).toInt32))])) tgt
      refine XS.iand X21.here hx rfl (hb hby at_62) rfl ?_
      exact kgo
    obtain ⟨kk, hkk⟩ : ∃ z : Int32, (((p4.toUInt32 >>> ((10 : Int32) &&& 31).toUInt32).toInt32) &&& (7 : Int32)) = z := ⟨_, rfl⟩
    refine OwnGoes.step (T' := T21) (g' := (mkF m 63 #[.val (.int p1), .val (.int p2), .val (.int p3), .val (.int p4), .val (.int (1 : Int32)), .val (.ref x_19), .val (.ref x_20), .val (.ref x_21), .unset, .unset, .unset, .unset, .unset, .unset, .unset, .unset] [(.int kk)])) (fun tgt kgo => castTop (by rw [hkk]) kgo) ?_
    have hkk0 : ¬ kk < 0 := hkk ▸ own_and7 _
    refine OwnGoes.step (T' := T21) (g' := (mkF m 71 #[.val (.int p1), .val (.int p2), .val (.int p3), .val (.int p4), .val (.int (1 : Int32)), .val (.ref x_19), .val (.ref x_20), .val (.ref x_21), .val (.int kk), .unset, .unset, .unset, .unset, .unset, .unset, .unset] [(.int (((p4.toUInt32 >>> ((13 : Int32) &&& 31).toUInt32).toInt32) &&& (1 : Int32)))])) (fun tgt kgo => ?_) ?_
    · show Steps p.tables e below (T21.setTop (mkF m 63 #[.val (.int p1), .val (.int p2), .val (.int p3), .val (.int p4), .val (.int (1 : Int32)), .val (.ref x_19), .val (.ref x_20), .val (.ref x_21), .unset, .unset, .unset, .unset, .unset, .unset, .unset, .unset] [(.int kk)])) tgt
      refine XS.istore X21.here hx rfl (hb hby at_63) rfl (l' := #[.val (.int p1), .val (.int p2), .val (.int p3), .val (.int p4), .val (.int (1 : Int32)), .val (.ref x_19), .val (.ref x_20), .val (.ref x_21), .val (.int kk), .unset, .unset, .unset, .unset, .unset, .unset, .unset]) rfl ?_
      show Steps p.tables e below (T21.setTop (mkF m 65 #[.val (.int p1), .val (.int p2), .val (.int p3), .val (.int p4), .val (.int (1 : Int32)), .val (.ref x_19), .val (.ref x_20), .val (.ref x_21), .val (.int kk), .unset, .unset, .unset, .unset, .unset, .unset, .unset] [])) tgt
      refine XS.iloadN X21.here hx rfl (hb hby at_65) rfl ?_
      show Steps p.tables e below (T21.setTop (mkF m 66 #[.val (.int p1), .val (.int p2), .val (.int p3), .val (.int p4), .val (.int (1 : Int32)), .val (.ref x_19), .val (.ref x_20), .val (.ref x_21), .val (.int kk), .unset, .unset, .unset, .unset, .unset, .unset, .unset] [(.int p4)])) tgt
      refine XS.bipush X21.here hx rfl (hb hby at_66) ?_
      show Steps p.tables e below (T21.setTop (mkF m 68 #[.val (.int p1), .val (.int p2), .val (.int p3), .val (.int p4), .val (.int (1 : Int32)), .val (.ref x_19), .val (.ref x_20), .val (.ref x_21), .val (.int kk), .unset, .unset, .unset, .unset, .unset, .unset, .unset] [(.int (13 : Int32)), (.int p4)])) tgt
      refine XS.iushr X21.here hx rfl (hb hby at_68) rfl ?_
      show Steps p.tables e below (T21.setTop (mkF m 69 #[.val (.int p1), .val (.int p2), .val (.int p3), .val (.int p4), .val (.int (1 : Int32)), .val (.ref x_19), .val (.ref x_20), .val (.ref x_21), .val (.int kk), .unset, .unset, .unset, .unset, .unset, .unset, .unset] [(.int ((p4.toUInt32 >>> ((13 : Int32) &&& 31).toUInt32).toInt32))])) tgt
      refine XS.iconst X21.here hx rfl (hb hby at_69) ?_
      show Steps p.tables e below (T21.setTop (mkF m 70 #[.val (.int p1), .val (.int p2), .val (.int p3), .val (.int p4), .val (.int (1 : Int32)), .val (.ref x_19), .val (.ref x_20), .val (.ref x_21), .val (.int kk), .unset, .unset, .unset, .unset, .unset, .unset, .unset] [(.int (1 : Int32)), (.int ((p4.toUInt32 >>> ((13 : Int32) &&& 31).toUInt32).toInt32))])) tgt
      refine XS.iand X21.here hx rfl (hb hby at_70) rfl ?_
      exact kgo
    have hj22 : ∀ (z22_0 : Int32), OwnGoes p e below (fun o U' => ∃ v L, o = .returned v ∧ Q_law Z p1 p2 p3 p4 h0 n0 v U'.heap L ∧ CHr Z consts_1 s.vm s.heap U'.vm U'.heap ∧ ReturnedEndW s o U' L room_1.cells room_1.slots) T21 (mkF m 79 #[.val (.int p1), .val (.int p2), .val (.int p3), .val (.int p4), .val (.int (1 : Int32)), .val (.ref x_19), .val (.ref x_20), .val (.ref x_21), .val (.int kk), .unset, .unset, .unset, .unset, .unset, .unset, .unset] [(.int z22_0)]) := by
      intro z22_0
      refine OwnGoes.step (T' := T21) (g' := (mkF m 85 #[.val (.int p1), .val (.int p2), .val (.int p3), .val (.int p4), .val (.int (1 : Int32)), .val (.ref x_19), .val (.ref x_20), .val (.ref x_21), .val (.int kk), .val (.int z22_0), .unset, .unset, .unset, .unset, .unset, .unset] [(.ref x_20), (.int kk)])) (fun tgt kgo => ?_) ?_
      · show Steps p.tables e below (T21.setTop (mkF m 79 #[.val (.int p1), .val (.int p2), .val (.int p3), .val (.int p4), .val (.int (1 : Int32)), .val (.ref x_19), .val (.ref x_20), .val (.ref x_21), .val (.int kk), .unset, .unset, .unset, .unset, .unset, .unset, .unset] [(.int z22_0)])) tgt
        refine XS.istore X21.here hx rfl (hb hby at_79) rfl (l' := #[.val (.int p1), .val (.int p2), .val (.int p3), .val (.int p4), .val (.int (1 : Int32)), .val (.ref x_19), .val (.ref x_20), .val (.ref x_21), .val (.int kk), .val (.int z22_0), .unset, .unset, .unset, .unset, .unset, .unset]) rfl ?_
        show Steps p.tables e below (T21.setTop (mkF m 81 #[.val (.int p1), .val (.int p2), .val (.int p3), .val (.int p4), .val (.int (1 : Int32)), .val (.ref x_19), .val (.ref x_20), .val (.ref x_21), .val (.int kk), .val (.int z22_0), .unset, .unset, .unset, .unset, .unset, .unset] [])) tgt
        refine XS.iload X21.here hx rfl (hb hby at_81) rfl ?_
        show Steps p.tables e below (T21.setTop (mkF m 83 #[.val (.int p1), .val (.int p2), .val (.int p3), .val (.int p4), .val (.int (1 : Int32)), .val (.ref x_19), .val (.ref x_20), .val (.ref x_21), .val (.int kk), .val (.int z22_0), .unset, .unset, .unset, .unset, .unset, .unset] [(.int kk)])) tgt
        refine XS.aload X21.here hx rfl (hb hby at_83) rfl rfl ?_
        exact kgo
      obtain ⟨_, _, ⟨T23, L23, k23, n23⟩, -, X23, Si23, Gr23, ⟨Lc23, hQ23, l23, y23, z23, Rc23⟩, st23⟩ := callSS X21 hx (y := (⟨"com/example/veilstone/veilstone/fhir/ElementElementsOfPinLaw", "typeOf", "(ILjava/lang/String;)Ljava/lang/String;"⟩ : MethodName)) ho21 (mvT hZ21 (hw _ (List.mem_of_getElem? (i := 26) rfl))) (mvT hZ21 (hw _ (List.mem_of_getElem? (i := 27) rfl))) (mvT hZ21 (hw _ (List.mem_of_getElem? (i := 2) rfl))) (mvT hZ21 (hw _ (List.mem_of_getElem? (i := 28) rfl))) (by decide) (backOfSH (W := 0) (rm_typeOf l Z a0 hw [] wG1 wO2 wP5 wG3 wO4 wrG3 hstr wG5 wK5 wO5 wV5 wG6 wO6 wE6 wF6 hEL T21.heap n0 Ol21 kk x_20 t_20 k_20 N_20 vs_20 cs_20 F21_191 F21_192 F21_193 F21_194 pq20_0 pq20_1 hkk0) hZ21 (hw _ (List.mem_of_getElem? (i := 28) rfl)) (hw _ (List.mem_of_getElem? (i := 2) rfl)) (by decide) (by decide) hEL R21.1) (g := (mkF m 85 #[.val (.int p1), .val (.int p2), .val (.int p3), .val (.int p4), .val (.int (1 : Int32)), .val (.ref x_19), .val (.ref x_20), .val (.ref x_21), .val (.int kk), .val (.int z22_0), .unset, .unset, .unset, .unset, .unset, .unset] [(.ref x_20), (.int kk)])) rfl (by rw [hml]; rfl) (argsL := [(.int kk), (.ref x_20)]) (rest := []) (lenOf pd_63783651 rfl) rfl (by show 2 * 0 + _ ≤ _; exact Nat.le_of_eq rfl) (hb hby at_85) (fun _ _ => ⟨rfl, rfl, (by decide : 18 + 2 ≤ _), (by decide : 36 + 64 ≤ _)⟩)
      dsimp only [Pt.U, Pt.locs, Pt.cells, Pt.slots] at X23 l23 y23 z23 st23 hQ23 Si23 Gr23 Rc23
      subst l23 y23 z23
      obtain ⟨x_23, t_23, k_23, N_23, vs_23, cs_23, rfl, Nq23, Kq23, fq23_0, fq23_1, fq23_2, fq23_3, pq23_0, pq23_1⟩ := hQ23
      refine OwnGoes.tr (T' := T23) (g' := (mkF m 88 #[.val (.int p1), .val (.int p2), .val (.int p3), .val (.int p4), .val (.int (1 : Int32)), .val (.ref x_19), .val (.ref x_20), .val (.ref x_21), .val (.int kk), .val (.int z22_0), .unset, .unset, .unset, .unset, .unset, .unset] [(.ref x_23)])) st23 ?_
      have N23 := Fr.app N21 Nq23
      have gz23 : T21.heap.size ≤ T23.heap.size := Rc23.2.1
      obtain ⟨X23, hS23, hZ23, ho23⟩ := rebS hS21 (Nat.le_refl _) X23 Si23 gz23 hZ21 ho21
      have F23_195 := F21_184.keep Kq23 nin0
      have F23_196 := F21_185.keep Kq23
      have F23_197 := F21_186.keep Kq23 nin0
      have F23_198 := F21_187.keep Kq23
      have F23_199 := F21_188.keep Kq23 nin0
      have F23_200 := F21_189.keep Kq23 nin0
      have F23_201 := F21_190.keep Kq23 nin0
      have F23_202 := F21_191.keep Kq23
      have F23_203 := F21_192.keep Kq23 nin0
      have F23_204 := F21_193.keep Kq23 nin0
      have F23_205 := F21_194.keep Kq23 nin0
      have F23_206 := fq21_0.keep Kq23
      have F23_207 := fq21_1.keep Kq23 nin0
      have F23_208 := fq21_2.keep Kq23 nin0
      have F23_209 := fq21_3.keep Kq23 nin0
      have Ol23 := Ol21.keep Kq23 all0
      have K23 : Keep h0 T23.heap ([] : List Addr) := K21.trans Kq23 all0
      have R23 := R21.trans Rc23
      refine OwnGoes.step (T' := T23) (g' := (mkF m 90 #[.val (.int p1), .val (.int p2), .val (.int p3), .val (.int p4), .val (.int (1 : Int32)), .val (.ref x_19), .val (.ref x_20), .val (.ref x_21), .val (.int kk), .val (.int z22_0), .val (.ref x_23), .unset, .unset, .unset, .unset, .unset] [])) (fun tgt kgo => ?_) ?_
      · show Steps p.tables e below (T23.setTop (mkF m 88 #[.val (.int p1), .val (.int p2), .val (.int p3), .val (.int p4), .val (.int (1 : Int32)), .val (.ref x_19), .val (.ref x_20), .val (.ref x_21), .val (.int kk), .val (.int z22_0), .unset, .unset, .unset, .unset, .unset, .unset] [(.ref x_23)])) tgt
        refine XS.astore X23.here hx rfl (hb hby at_88) rfl rfl (l' := #[.val (.int p1), .val (.int p2), .val (.int p3), .val (.int p4), .val (.int (1 : Int32)), .val (.ref x_19), .val (.ref x_20), .val (.ref x_21), .val (.int kk), .val (.int z22_0), .val (.ref x_23), .unset, .unset, .unset, .unset, .unset]) rfl ?_
        exact kgo
      obtain ⟨T24, h24, X24, e24, E24, A24, D24, U24, st24⟩ := newO X23 hx hZ23 ho23 (hw _ (List.mem_of_getElem? (i := 30) rfl)) (hw _ (List.mem_of_getElem? (i := 31) rfl)) (hw _ (List.mem_of_getElem? (i := 32) rfl)) rfl (g := (mkF m 90 #[.val (.int p1), .val (.int p2), .val (.int p3), .val (.int p4), .val (.int (1 : Int32)), .val (.ref x_19), .val (.ref x_20), .val (.ref x_21), .val (.int kk), .val (.int z22_0), .val (.ref x_23), .unset, .unset, .unset, .unset, .unset] [])) rfl (hb hby at_90) (by decide) (by decide)
      obtain ⟨b24, g24⟩ : ∃ z, z = T23.heap.size := ⟨_, rfl⟩
      rw [← g24] at A24 D24 U24 st24
      refine OwnGoes.step (T' := T24) (g' := (mkF m 93 #[.val (.int p1), .val (.int p2), .val (.int p3), .val (.int p4), .val (.int (1 : Int32)), .val (.ref x_19), .val (.ref x_20), .val (.ref x_21), .val (.int kk), .val (.int z22_0), .val (.ref x_23), .unset, .unset, .unset, .unset, .unset] [(.ref b24)])) st24 ?_
      have ne_wG5_b24 : wG5 ≠ b24 := Nat.ne_of_lt (Nat.lt_of_lt_of_le F23_195.lt (Nat.le_of_eq g24.symm))
      have ne_wG6_b24 : wG6 ≠ b24 := Nat.ne_of_lt (Nat.lt_of_lt_of_le F23_196.lt (Nat.le_of_eq g24.symm))
      have ne_x_19_b24 : x_19 ≠ b24 := Nat.ne_of_lt (Nat.lt_of_lt_of_le F23_198.lt (Nat.le_of_eq g24.symm))
      have ne_t_19_b24 : t_19 ≠ b24 := Nat.ne_of_lt (Nat.lt_of_lt_of_le F23_201.lt (Nat.le_of_eq g24.symm))
      have ne_x_20_b24 : x_20 ≠ b24 := Nat.ne_of_lt (Nat.lt_of_lt_of_le F23_202.lt (Nat.le_of_eq g24.symm))
      have ne_t_20_b24 : t_20 ≠ b24 := Nat.ne_of_lt (Nat.lt_of_lt_of_le F23_205.lt (Nat.le_of_eq g24.symm))
      have ne_x_21_b24 : x_21 ≠ b24 := Nat.ne_of_lt (Nat.lt_of_lt_of_le F23_206.lt (Nat.le_of_eq g24.symm))
      have ne_t_21_b24 : t_21 ≠ b24 := Nat.ne_of_lt (Nat.lt_of_lt_of_le F23_209.lt (Nat.le_of_eq g24.symm))
      have ne_x_23_b24 : x_23 ≠ b24 := Nat.ne_of_lt (Nat.lt_of_lt_of_le fq23_0.lt (Nat.le_of_eq g24.symm))
      have ne_t_23_b24 : t_23 ≠ b24 := Nat.ne_of_lt (Nat.lt_of_lt_of_le fq23_3.lt (Nat.le_of_eq g24.symm))
      have g_b24 : n0 ≤ b24 := Nat.le_trans (Nat.le_trans Z0 K23.1) (Nat.le_of_eq g24.symm)
      have s_b24 : h0.size ≤ b24 := Nat.le_trans K23.1 (Nat.le_of_eq g24.symm)
      have Sf24 : Safe Z consts_1 T23.vm h24 b24 := Safe.ext E24 R23.1 (Safe.new (Nat.le_of_eq g24.symm))
      have F24_210 := F23_195.ext E24
      have F24_211 := F23_196.ext E24
      have F24_212 := F23_197.ext E24
      have F24_213 := F23_198.ext E24
      have F24_214 := F23_199.ext E24
      have F24_215 := F23_200.ext E24
      have F24_216 := F23_201.ext E24
      have F24_217 := F23_202.ext E24
      have F24_218 := F23_203.ext E24
      have F24_219 := F23_204.ext E24
      have F24_220 := F23_205.ext E24
      have F24_221 := F23_206.ext E24
      have F24_222 := F23_207.ext E24
      have F24_223 := F23_208.ext E24
      have F24_224 := F23_209.ext E24
      have F24_225 := fq23_0.ext E24
      have F24_226 := fq23_1.ext E24
      have F24_227 := fq23_2.ext E24
      have F24_228 := fq23_3.ext E24
      have Ol24 := Ol23.ext E24
      have K24 : Keep h0 h24 ([] : List Addr) := K23.ext E24
      have R24 := R23.trans (CHr.ext E24 R23.1)
      have hk24 := Nat.le_trans (Nat.le_refl _) E24.1
      have F24_229 : Fld Z h24 b24 "java/util/AbstractList" "modCount" "I" (.int (0 : Int32)) := D24 (Or.inl (hw _ (List.mem_of_getElem? (i := 50) rfl))) (ty := .int) (by decide)
      have F24_230 : Fld Z h24 b24 "java/util/ArrayList" "elementData" "[Ljava/lang/Object;" .null := D24 (Or.inl (hw _ (List.mem_of_getElem? (i := 53) rfl))) (ty := (.array (.object "java/lang/Object"))) (by decide)
      have F24_231 : Fld Z h24 b24 "java/util/ArrayList" "size" "I" (.int (0 : Int32)) := D24 (Or.inl (hw _ (List.mem_of_getElem? (i := 66) rfl))) (ty := .int) (by decide)
      refine OwnGoes.step (T' := T24) (g' := (mkF m 94 #[.val (.int p1), .val (.int p2), .val (.int p3), .val (.int p4), .val (.int (1 : Int32)), .val (.ref x_19), .val (.ref x_20), .val (.ref x_21), .val (.int kk), .val (.int z22_0), .val (.ref x_23), .unset, .unset, .unset, .unset, .unset] [(.ref b24), (.ref b24)])) (fun tgt kgo => ?_) ?_
      · show Steps p.tables e below (T24.setTop (mkF m 93 #[.val (.int p1), .val (.int p2), .val (.int p3), .val (.int p4), .val (.int (1 : Int32)), .val (.ref x_19), .val (.ref x_20), .val (.ref x_21), .val (.int kk), .val (.int z22_0), .val (.ref x_23), .unset, .unset, .unset, .unset, .unset] [(.ref b24)])) tgt
        refine XS.dup X24.here hx rfl (hb hby at_93) rfl rfl ?_
        exact kgo
      obtain ⟨_, _, ⟨T25, L25, k25, n25⟩, -, X25, ⟨Lc25, hQ25, l25, y25, z25⟩, st25⟩ := X24.specialBack hx (y := (⟨"java/util/ArrayList", "<init>", "()V"⟩ : MethodName)) rfl ho23 (mvT hZ23 (hw _ (List.mem_of_getElem? (i := 33) rfl))) (mvT hZ23 (hw _ (List.mem_of_getElem? (i := 34) rfl))) (mvT hZ23 (hw _ (List.mem_of_getElem? (i := 35) rfl))) (by decide) (backOf (W := 1) (rm_ali l Z a0 hw [] wG1 wO2 wP5 wG3 wO4 wrG3 hstr wG5 wK5 wO5 wV5 wG6 wO6 wE6 wF6 hEL h24 n0 Ol24 b24 (.int (0 : Int32)) .null A24 F24_229 F24_230 F24_231 g_b24) hZ23 (hw _ (List.mem_of_getElem? (i := 35) rfl)) (hw _ (List.mem_of_getElem? (i := 32) rfl)) (by decide) (by decide)) (g := (mkF m 94 #[.val (.int p1), .val (.int p2), .val (.int p3), .val (.int p4), .val (.int (1 : Int32)), .val (.ref x_19), .val (.ref x_20), .val (.ref x_21), .val (.int kk), .val (.int z22_0), .val (.ref x_23), .unset, .unset, .unset, .unset, .unset] [(.ref b24), (.ref b24)])) rfl (by rw [hml]; rfl) (Steps.refl _) (a := b24) (argsL := []) (rest := [(.ref b24)]) (lenOf pd_57008992 rfl) rfl (by show 2 * 0 + _ ≤ _; exact Nat.le_of_eq rfl) (hb hby at_94) (fun _ _ => ⟨rfl, e24, (by decide : 21 + 0 ≤ _), (by decide : 103 + 0 ≤ _)⟩)
      dsimp only [Pt.U, Pt.locs, Pt.cells, Pt.slots] at X25 l25 y25 z25 st25 hQ25
      subst l25 y25 z25
      obtain ⟨rfl, Nq25, Kq25, fq25_0, fq25_1, fq25_2, fq25_3⟩ := hQ25
      refine OwnGoes.tr (T' := T25) (g' := (mkF m 97 #[.val (.int p1), .val (.int p2), .val (.int p3), .val (.int p4), .val (.int (1 : Int32)), .val (.ref x_19), .val (.ref x_20), .val (.ref x_21), .val (.int kk), .val (.int z22_0), .val (.ref x_23), .unset, .unset, .unset, .unset, .unset] [(.ref b24)])) st25 ?_
      have N25 := Fr.app N23 Nq25
      have F25_232 := F24_210.keep Kq25 (ninS ne_wG5_b24 nin0)
      have F25_233 := F24_211.keep Kq25
      have F25_234 := F24_212.keep Kq25 (ninS ne_wG6_b24 nin0)
      have F25_235 := F24_213.keep Kq25
      have F25_236 := F24_214.keep Kq25 (ninS ne_x_19_b24 nin0)
      have F25_237 := F24_215.keep Kq25 (ninS ne_x_19_b24 nin0)
      have F25_238 := F24_216.keep Kq25 (ninS ne_t_19_b24 nin0)
      have F25_239 := F24_217.keep Kq25
      have F25_240 := F24_218.keep Kq25 (ninS ne_x_20_b24 nin0)
      have F25_241 := F24_219.keep Kq25 (ninS ne_x_20_b24 nin0)
      have F25_242 := F24_220.keep Kq25 (ninS ne_t_20_b24 nin0)
      have F25_243 := F24_221.keep Kq25
      have F25_244 := F24_222.keep Kq25 (ninS ne_x_21_b24 nin0)
      have F25_245 := F24_223.keep Kq25 (ninS ne_x_21_b24 nin0)
      have F25_246 := F24_224.keep Kq25 (ninS ne_t_21_b24 nin0)
      have F25_247 := F24_225.keep Kq25
      have F25_248 := F24_226.keep Kq25 (ninS ne_x_23_b24 nin0)
      have F25_249 := F24_227.keep Kq25 (ninS ne_x_23_b24 nin0)
      have F25_250 := F24_228.keep Kq25 (ninS ne_t_23_b24 nin0)
      have F25_251 := Safe.keep Kq25 (sfS Sf24 sf0) R24.1 Sf24
      have F25_252 := A24.keep Kq25
      have Ol25 := Ol24.keep Kq25 (allS g_b24 all0)
      have K25 : Keep h0 T25.heap ([] : List Addr) := K24.trans Kq25 (allS (Or.inr s_b24) all0)
      have R25 := R24.trans (CHr.keep Kq25 (sfS Sf24 sf0) R24.1)
      have hk25 := Nat.le_trans hk24 Kq25.1
      refine OwnGoes.step (T' := T25) (g' := (mkF m 103 #[.val (.int p1), .val (.int p2), .val (.int p3), .val (.int p4), .val (.int (1 : Int32)), .val (.ref x_19), .val (.ref x_20), .val (.ref x_21), .val (.int kk), .val (.int z22_0), .val (.ref x_23), .val (.ref b24), .unset, .unset, .unset, .unset] [(.ref x_23), (.ref b24)])) (fun tgt kgo => ?_) ?_
      · show Steps p.tables e below (T25.setTop (mkF m 97 #[.val (.int p1), .val (.int p2), .val (.int p3), .val (.int p4), .val (.int (1 : Int32)), .val (.ref x_19), .val (.ref x_20), .val (.ref x_21), .val (.int kk), .val (.int z22_0), .val (.ref x_23), .unset, .unset, .unset, .unset, .unset] [(.ref b24)])) tgt
        refine XS.astore X25.here hx rfl (hb hby at_97) rfl rfl (l' := #[.val (.int p1), .val (.int p2), .val (.int p3), .val (.int p4), .val (.int (1 : Int32)), .val (.ref x_19), .val (.ref x_20), .val (.ref x_21), .val (.int kk), .val (.int z22_0), .val (.ref x_23), .val (.ref b24), .unset, .unset, .unset, .unset]) rfl ?_
        show Steps p.tables e below (T25.setTop (mkF m 99 #[.val (.int p1), .val (.int p2), .val (.int p3), .val (.int p4), .val (.int (1 : Int32)), .val (.ref x_19), .val (.ref x_20), .val (.ref x_21), .val (.int kk), .val (.int z22_0), .val (.ref x_23), .val (.ref b24), .unset, .unset, .unset, .unset] [])) tgt
        refine XS.aload X25.here hx rfl (hb hby at_99) rfl rfl ?_
        show Steps p.tables e below (T25.setTop (mkF m 101 #[.val (.int p1), .val (.int p2), .val (.int p3), .val (.int p4), .val (.int (1 : Int32)), .val (.ref x_19), .val (.ref x_20), .val (.ref x_21), .val (.int kk), .val (.int z22_0), .val (.ref x_23), .val (.ref b24), .unset, .unset, .unset, .unset] [(.ref b24)])) tgt
        refine XS.aload X25.here hx rfl (hb hby at_101) rfl rfl ?_
        exact kgo
      obtain ⟨cq26, kq26, q26a, q26b, q26c⟩ := isOf (s := (s.setVm T23.vm)) hZ23 rfl fq25_0
      obtain ⟨_, _, ⟨T26, L26, k26, n26⟩, -, X26, ⟨Lc26, hQ26, l26, y26, z26⟩, st26⟩ := X25.interfaceBack hx (xi := (⟨"java/util/List", "add", "(Ljava/lang/Object;)Z"⟩ : MethodName)) (y := (⟨"java/util/ArrayList", "add", "(Ljava/lang/Object;)Z"⟩ : MethodName)) ho23 (mvT hZ23 (hw _ (List.mem_of_getElem? (i := 54) rfl))) (mvT hZ23 (hw _ (List.mem_of_getElem? (i := 55) rfl))) (mvT hZ23 (hw _ (List.mem_of_getElem? (i := 56) rfl))) (mvT hZ23 (hw _ (List.mem_of_getElem? (i := 57) rfl))) (mvT hZ23 (hw _ (List.mem_of_getElem? (i := 58) rfl))) (mvT hZ23 (hw _ (List.mem_of_getElem? (i := 59) rfl))) (mvT hZ23 (hw _ (List.mem_of_getElem? (i := 60) rfl))) (mvT hZ23 (hw _ (List.mem_of_getElem? (i := 61) rfl))) (by decide) (backOf (W := 0) (rm_add1 l Z a0 hw [] wG1 wO2 wP5 wG3 wO4 wrG3 hstr wG5 wK5 wO5 wV5 wG6 wO6 wE6 wF6 hEL T25.heap n0 Ol25 b24 x_23 fq25_0 fq25_1 fq25_2 fq25_3 g_b24 F25_247) hZ23 (hw _ (List.mem_of_getElem? (i := 62) rfl)) (hw _ (List.mem_of_getElem? (i := 32) rfl)) (by decide) (by decide)) q26a q26b q26c (g := (mkF m 103 #[.val (.int p1), .val (.int p2), .val (.int p3), .val (.int p4), .val (.int (1 : Int32)), .val (.ref x_19), .val (.ref x_20), .val (.ref x_21), .val (.int kk), .val (.int z22_0), .val (.ref x_23), .val (.ref b24), .unset, .unset, .unset, .unset] [(.ref x_23), (.ref b24)])) rfl (by rw [hml]; rfl) (Steps.refl _) (argsL := [(.ref x_23)]) (rest := []) (lenOf pd_81697300 rfl) rfl (by show 2 * 0 + _ ≤ _; exact Nat.le_of_eq rfl) (hb hby at_103) (fun _ _ => ⟨rfl, rfl, (by decide : 21 + 1 ≤ _), (by decide : 103 + 10 ≤ _)⟩)
      dsimp only [Pt.U, Pt.locs, Pt.cells, Pt.slots] at X26 l26 y26 z26 st26 hQ26
      subst l26 y26 z26
      obtain ⟨rfl, Nq26, Kq26, fq26_0⟩ := hQ26
      refine OwnGoes.tr (T' := T26) (g' := (mkF m 108 #[.val (.int p1), .val (.int p2), .val (.int p3), .val (.int p4), .val (.int (1 : Int32)), .val (.ref x_19), .val (.ref x_20), .val (.ref x_21), .val (.int kk), .val (.int z22_0), .val (.ref x_23), .val (.ref b24), .unset, .unset, .unset, .unset] [(.int (1 : Int32))])) st26 ?_
      have N26 := Fr.app N25 Nq26
      have F26_253 := F25_232.keep Kq26 (ninS ne_wG5_b24 nin0)
      have F26_254 := F25_233.keep Kq26
      have F26_255 := F25_234.keep Kq26 (ninS ne_wG6_b24 nin0)
      have F26_256 := F25_235.keep Kq26
      have F26_257 := F25_236.keep Kq26 (ninS ne_x_19_b24 nin0)
      have F26_258 := F25_237.keep Kq26 (ninS ne_x_19_b24 nin0)
      have F26_259 := F25_238.keep Kq26 (ninS ne_t_19_b24 nin0)
      have F26_260 := F25_239.keep Kq26
      have F26_261 := F25_240.keep Kq26 (ninS ne_x_20_b24 nin0)
      have F26_262 := F25_241.keep Kq26 (ninS ne_x_20_b24 nin0)
      have F26_263 := F25_242.keep Kq26 (ninS ne_t_20_b24 nin0)
      have F26_264 := F25_243.keep Kq26
      have F26_265 := F25_244.keep Kq26 (ninS ne_x_21_b24 nin0)
      have F26_266 := F25_245.keep Kq26 (ninS ne_x_21_b24 nin0)
      have F26_267 := F25_246.keep Kq26 (ninS ne_t_21_b24 nin0)
      have F26_268 := F25_247.keep Kq26
      have F26_269 := F25_248.keep Kq26 (ninS ne_x_23_b24 nin0)
      have F26_270 := F25_249.keep Kq26 (ninS ne_x_23_b24 nin0)
      have F26_271 := F25_250.keep Kq26 (ninS ne_t_23_b24 nin0)
      have F26_272 := Safe.keep Kq26 (sfS F25_251 sf0) R25.1 F25_251
      have F26_273 := fq25_0.keep Kq26
      have Ol26 := Ol25.keep Kq26 (allS g_b24 all0)
      have K26 : Keep h0 T26.heap ([] : List Addr) := K25.trans Kq26 (allS (Or.inr s_b24) all0)
      have R26 := R25.trans (CHr.keep Kq26 (sfS F25_251 sf0) R25.1)
      have hk26 := Nat.le_trans hk25 Kq26.1
      refine OwnGoes.step (T' := T26) (g' := (mkF m 116 #[.val (.int p1), .val (.int p2), .val (.int p3), .val (.int p4), .val (.int (1 : Int32)), .val (.ref x_19), .val (.ref x_20), .val (.ref x_21), .val (.int kk), .val (.int z22_0), .val (.ref x_23), .val (.ref b24), .unset, .unset, .unset, .unset] [(.ref x_21)])) (fun tgt kgo => ?_) ?_
      · show Steps p.tables e below (T26.setTop (mkF m 108 #[.val (.int p1), .val (.int p2), .val (.int p3), .val (.int p4), .val (.int (1 : Int32)), .val (.ref x_19), .val (.ref x_20), .val (.ref x_21), .val (.int kk), .val (.int z22_0), .val (.ref x_23), .val (.ref b24), .unset, .unset, .unset, .unset] [(.int (1 : Int32))])) tgt
        refine XS.pop X26.here hx rfl (hb hby at_108) rfl rfl ?_
        show Steps p.tables e below (T26.setTop (mkF m 109 #[.val (.int p1), .val (.int p2), .val (.int p3), .val (.int p4), .val (.int (1 : Int32)), .val (.ref x_19), .val (.ref x_20), .val (.ref x_21), .val (.int kk), .val (.int z22_0), .val (.ref x_23), .val (.ref b24), .unset, .unset, .unset, .unset] [])) tgt
        refine XS.iload X26.here hx rfl (hb hby at_109) rfl ?_
        show Steps p.tables e below (T26.setTop (mkF m 111 #[.val (.int p1), .val (.int p2), .val (.int p3), .val (.int p4), .val (.int (1 : Int32)), .val (.ref x_19), .val (.ref x_20), .val (.ref x_21), .val (.int kk), .val (.int z22_0), .val (.ref x_23), .val (.ref b24), .unset, .unset, .unset, .unset] [(.int (1 : Int32))])) tgt
        refine XS.ifNo X26.here hx rfl (hb hby at_111) rfl ((if0 _ _).trans (feq (by decide : ¬ ((1 : Int32) = (0 : Int32)))).1) ?_
        show Steps p.tables e below (T26.setTop (mkF m 114 #[.val (.int p1), .val (.int p2), .val (.int p3), .val (.int p4), .val (.int (1 : Int32)), .val (.ref x_19), .val (.ref x_20), .val (.ref x_21), .val (.int kk), .val (.int z22_0), .val (.ref x_23), .val (.ref b24), .unset, .unset, .unset, .unset] [])) tgt
        refine XS.aload X26.here hx rfl (hb hby at_114) rfl rfl ?_
        exact kgo
      obtain ⟨_, _, ⟨T27, L27, k27, n27⟩, -, X27, ⟨Lc27, hQ27, l27, y27, z27⟩, st27⟩ := Jvm.LawKit.callS X26 hx (y := (⟨"java/util/Optional", "of", "(Ljava/lang/Object;)Ljava/util/Optional;"⟩ : MethodName)) ho23 (mvT hZ23 (hw _ (List.mem_of_getElem? (i := 89) rfl))) (mvT hZ23 (hw _ (List.mem_of_getElem? (i := 90) rfl))) (mvT hZ23 (hw _ (List.mem_of_getElem? (i := 91) rfl))) (mvT hZ23 (hw _ (List.mem_of_getElem? (i := 92) rfl))) (by decide) (backOf (W := 0) (rm_opof l Z a0 hw [] wG1 wO2 wP5 wG3 wO4 wrG3 hstr wG5 wK5 wO5 wV5 wG6 wO6 wE6 wF6 hEL T26.heap n0 Ol26 x_21) hZ23 (hw _ (List.mem_of_getElem? (i := 92) rfl)) (hw _ (List.mem_of_getElem? (i := 91) rfl)) (by decide) (by decide)) (g := (mkF m 116 #[.val (.int p1), .val (.int p2), .val (.int p3), .val (.int p4), .val (.int (1 : Int32)), .val (.ref x_19), .val (.ref x_20), .val (.ref x_21), .val (.int kk), .val (.int z22_0), .val (.ref x_23), .val (.ref b24), .unset, .unset, .unset, .unset] [(.ref x_21)])) rfl (by rw [hml]; rfl) (argsL := [(.ref x_21)]) (rest := []) (lenOf pd_7324811 rfl) rfl (by show 2 * 0 + _ ≤ _; exact Nat.le_of_eq rfl) (hb hby at_116) (fun _ _ => ⟨rfl, rfl, (by decide : 22 + 1 ≤ _), (by decide : 113 + 1 ≤ _)⟩)
      dsimp only [Pt.U, Pt.locs, Pt.cells, Pt.slots] at X27 l27 y27 z27 st27 hQ27
      subst l27 y27 z27
      obtain ⟨o_27, rfl, Nq27, Kq27, zq27_0, fq27_0, fq27_1⟩ := hQ27
      refine OwnGoes.step (T' := T27) (g' := (mkF m 119 #[.val (.int p1), .val (.int p2), .val (.int p3), .val (.int p4), .val (.int (1 : Int32)), .val (.ref x_19), .val (.ref x_20), .val (.ref x_21), .val (.int kk), .val (.int z22_0), .val (.ref x_23), .val (.ref b24), .unset, .unset, .unset, .unset] [(.ref o_27)])) st27 ?_
      have N27 := Fr.app N26 Nq27
      have ne_wG5_o_27 : wG5 ≠ o_27 := Nat.ne_of_lt (Nat.lt_of_lt_of_le F26_253.lt zq27_0)
      have ne_wG6_o_27 : wG6 ≠ o_27 := Nat.ne_of_lt (Nat.lt_of_lt_of_le F26_254.lt zq27_0)
      have ne_x_19_o_27 : x_19 ≠ o_27 := Nat.ne_of_lt (Nat.lt_of_lt_of_le F26_256.lt zq27_0)
      have ne_t_19_o_27 : t_19 ≠ o_27 := Nat.ne_of_lt (Nat.lt_of_lt_of_le F26_259.lt zq27_0)
      have ne_x_20_o_27 : x_20 ≠ o_27 := Nat.ne_of_lt (Nat.lt_of_lt_of_le F26_260.lt zq27_0)
      have ne_t_20_o_27 : t_20 ≠ o_27 := Nat.ne_of_lt (Nat.lt_of_lt_of_le F26_263.lt zq27_0)
      have ne_x_21_o_27 : x_21 ≠ o_27 := Nat.ne_of_lt (Nat.lt_of_lt_of_le F26_264.lt zq27_0)
      have ne_t_21_o_27 : t_21 ≠ o_27 := Nat.ne_of_lt (Nat.lt_of_lt_of_le F26_267.lt zq27_0)
      have ne_x_23_o_27 : x_23 ≠ o_27 := Nat.ne_of_lt (Nat.lt_of_lt_of_le F26_268.lt zq27_0)
      have ne_t_23_o_27 : t_23 ≠ o_27 := Nat.ne_of_lt (Nat.lt_of_lt_of_le F26_271.lt zq27_0)
      have ne_b24_o_27 : b24 ≠ o_27 := Nat.ne_of_lt (Nat.lt_of_lt_of_le fq26_0.lt zq27_0)
      have g_o_27 : n0 ≤ o_27 := Nat.le_trans (Nat.le_trans Z0 K26.1) zq27_0
      have s_o_27 : h0.size ≤ o_27 := Nat.le_trans K26.1 zq27_0
      have F27_274 := F26_253.keep Kq27 nin0
      have F27_275 := F26_254.keep Kq27
      have F27_276 := F26_255.keep Kq27 nin0
      have F27_277 := F26_256.keep Kq27
      have F27_278 := F26_257.keep Kq27 nin0
      have F27_279 := F26_258.keep Kq27 nin0
      have F27_280 := F26_259.keep Kq27 nin0
      have F27_281 := F26_260.keep Kq27
      have F27_282 := F26_261.keep Kq27 nin0
      have F27_283 := F26_262.keep Kq27 nin0
      have F27_284 := F26_263.keep Kq27 nin0
      have F27_285 := F26_264.keep Kq27
      have F27_286 := F26_265.keep Kq27 nin0
      have F27_287 := F26_266.keep Kq27 nin0
      have F27_288 := F26_267.keep Kq27 nin0
      have F27_289 := F26_268.keep Kq27
      have F27_290 := F26_269.keep Kq27 nin0
      have F27_291 := F26_270.keep Kq27 nin0
      have F27_292 := F26_271.keep Kq27 nin0
      have F27_293 := Safe.keep Kq27 sf0 R26.1 F26_272
      have F27_294 := fq26_0.keep Kq27
      have Ol27 := Ol26.keep Kq27 all0
      have K27 : Keep h0 T27.heap ([] : List Addr) := K26.trans Kq27 all0
      have R27 := R26.trans (CHr.keep Kq27 sf0 R26.1)
      have hk27 := Nat.le_trans hk26 Kq27.1
      refine OwnGoes.step (T' := T27) (g' := (mkF m 127 #[.val (.int p1), .val (.int p2), .val (.int p3), .val (.int p4), .val (.int (1 : Int32)), .val (.ref x_19), .val (.ref x_20), .val (.ref x_21), .val (.int kk), .val (.int z22_0), .val (.ref x_23), .val (.ref b24), .val (.ref o_27), .unset, .unset, .unset] [])) (fun tgt kgo => ?_) ?_
      · show Steps p.tables e below (T27.setTop (mkF m 119 #[.val (.int p1), .val (.int p2), .val (.int p3), .val (.int p4), .val (.int (1 : Int32)), .val (.ref x_19), .val (.ref x_20), .val (.ref x_21), .val (.int kk), .val (.int z22_0), .val (.ref x_23), .val (.ref b24), .unset, .unset, .unset, .unset] [(.ref o_27)])) tgt
        refine XS.goto X27.here hx rfl (pc0 := 119) (pc' := 125) rfl (hb hby at_119) (by decide) (by decide) ?_
        show Steps p.tables e below (T27.setTop (mkF m 125 #[.val (.int p1), .val (.int p2), .val (.int p3), .val (.int p4), .val (.int (1 : Int32)), .val (.ref x_19), .val (.ref x_20), .val (.ref x_21), .val (.int kk), .val (.int z22_0), .val (.ref x_23), .val (.ref b24), .unset, .unset, .unset, .unset] [(.ref o_27)])) tgt
        refine XS.astore X27.here hx rfl (hb hby at_125) rfl rfl (l' := #[.val (.int p1), .val (.int p2), .val (.int p3), .val (.int p4), .val (.int (1 : Int32)), .val (.ref x_19), .val (.ref x_20), .val (.ref x_21), .val (.int kk), .val (.int z22_0), .val (.ref x_23), .val (.ref b24), .val (.ref o_27), .unset, .unset, .unset]) rfl ?_
        exact kgo
      obtain ⟨T28, h28, X28, e28, E28, A28, D28, U28, st28⟩ := newO X27 hx hZ23 ho23 (hw _ (List.mem_of_getElem? (i := 106) rfl)) (hw _ (List.mem_of_getElem? (i := 107) rfl)) (hw _ (List.mem_of_getElem? (i := 108) rfl)) rfl (g := (mkF m 127 #[.val (.int p1), .val (.int p2), .val (.int p3), .val (.int p4), .val (.int (1 : Int32)), .val (.ref x_19), .val (.ref x_20), .val (.ref x_21), .val (.int kk), .val (.int z22_0), .val (.ref x_23), .val (.ref b24), .val (.ref o_27), .unset, .unset, .unset] [])) rfl (hb hby at_127) (by decide) (by decide)
      obtain ⟨b28, g28⟩ : ∃ z, z = T27.heap.size := ⟨_, rfl⟩
      rw [← g28] at A28 D28 U28 st28
      refine OwnGoes.step (T' := T28) (g' := (mkF m 130 #[.val (.int p1), .val (.int p2), .val (.int p3), .val (.int p4), .val (.int (1 : Int32)), .val (.ref x_19), .val (.ref x_20), .val (.ref x_21), .val (.int kk), .val (.int z22_0), .val (.ref x_23), .val (.ref b24), .val (.ref o_27), .unset, .unset, .unset] [(.ref b28)])) st28 ?_
      have ne_wG5_b28 : wG5 ≠ b28 := Nat.ne_of_lt (Nat.lt_of_lt_of_le F27_274.lt (Nat.le_of_eq g28.symm))
      have ne_wG6_b28 : wG6 ≠ b28 := Nat.ne_of_lt (Nat.lt_of_lt_of_le F27_275.lt (Nat.le_of_eq g28.symm))
      have ne_x_19_b28 : x_19 ≠ b28 := Nat.ne_of_lt (Nat.lt_of_lt_of_le F27_277.lt (Nat.le_of_eq g28.symm))
      have ne_t_19_b28 : t_19 ≠ b28 := Nat.ne_of_lt (Nat.lt_of_lt_of_le F27_280.lt (Nat.le_of_eq g28.symm))
      have ne_x_20_b28 : x_20 ≠ b28 := Nat.ne_of_lt (Nat.lt_of_lt_of_le F27_281.lt (Nat.le_of_eq g28.symm))
      have ne_t_20_b28 : t_20 ≠ b28 := Nat.ne_of_lt (Nat.lt_of_lt_of_le F27_284.lt (Nat.le_of_eq g28.symm))
      have ne_x_21_b28 : x_21 ≠ b28 := Nat.ne_of_lt (Nat.lt_of_lt_of_le F27_285.lt (Nat.le_of_eq g28.symm))
      have ne_t_21_b28 : t_21 ≠ b28 := Nat.ne_of_lt (Nat.lt_of_lt_of_le F27_288.lt (Nat.le_of_eq g28.symm))
      have ne_x_23_b28 : x_23 ≠ b28 := Nat.ne_of_lt (Nat.lt_of_lt_of_le F27_289.lt (Nat.le_of_eq g28.symm))
      have ne_t_23_b28 : t_23 ≠ b28 := Nat.ne_of_lt (Nat.lt_of_lt_of_le F27_292.lt (Nat.le_of_eq g28.symm))
      have ne_b24_b28 : b24 ≠ b28 := Nat.ne_of_lt (Nat.lt_of_lt_of_le F27_294.lt (Nat.le_of_eq g28.symm))
      have ne_o_27_b28 : o_27 ≠ b28 := Nat.ne_of_lt (Nat.lt_of_lt_of_le fq27_0.lt (Nat.le_of_eq g28.symm))
      have g_b28 : n0 ≤ b28 := Nat.le_trans (Nat.le_trans Z0 K27.1) (Nat.le_of_eq g28.symm)
      have s_b28 : h0.size ≤ b28 := Nat.le_trans K27.1 (Nat.le_of_eq g28.symm)
      have Sf28 : Safe Z consts_1 T23.vm h28 b28 := Safe.ext E28 R27.1 (Safe.new (Nat.le_of_eq g28.symm))
      have F28_295 := F27_274.ext E28
      have F28_296 := F27_275.ext E28
      have F28_297 := F27_276.ext E28
      have F28_298 := F27_277.ext E28
      have F28_299 := F27_278.ext E28
      have F28_300 := F27_279.ext E28
      have F28_301 := F27_280.ext E28
      have F28_302 := F27_281.ext E28
      have F28_303 := F27_282.ext E28
      have F28_304 := F27_283.ext E28
      have F28_305 := F27_284.ext E28
      have F28_306 := F27_285.ext E28
      have F28_307 := F27_286.ext E28
      have F28_308 := F27_287.ext E28
      have F28_309 := F27_288.ext E28
      have F28_310 := F27_289.ext E28
      have F28_311 := F27_290.ext E28
      have F28_312 := F27_291.ext E28
      have F28_313 := F27_292.ext E28
      have F28_314 := Safe.ext E28 R27.1 F27_293
      have F28_315 := F27_294.ext E28
      have F28_316 := fq27_0.ext E28
      have F28_317 := fq27_1.ext E28
      have Ol28 := Ol27.ext E28
      have K28 : Keep h0 h28 ([] : List Addr) := K27.ext E28
      have R28 := R27.trans (CHr.ext E28 R27.1)
      have hk28 := Nat.le_trans hk27 E28.1
      have F28_318 : Fld Z h28 b28 "com/example/veilstone/veilstone/fhir/Definitions$Element" "path" "Ljava/lang/String;" .null := D28 (Or.inr (hw _ (List.mem_of_getElem? (i := 119) rfl))) (ty := (.object "java/lang/String")) (by decide)
      have F28_319 : Fld Z h28 b28 "com/example/veilstone/veilstone/fhir/Definitions$Element" "repeating" "Z" (.int (0 : Int32)) := D28 (Or.inr (hw _ (List.mem_of_getElem? (i := 121) rfl))) (ty := .boolean) (by decide)
      have F28_320 : Fld Z h28 b28 "com/example/veilstone/veilstone/fhir/Definitions$Element" "types" "Ljava/util/List;" .null := D28 (Or.inr (hw _ (List.mem_of_getElem? (i := 123) rfl))) (ty := (.object "java/util/List")) (by decide)
      have F28_321 : Fld Z h28 b28 "com/example/veilstone/veilstone/fhir/Definitions$Element" "reused" "Ljava/util/Optional;" .null := D28 (Or.inr (hw _ (List.mem_of_getElem? (i := 125) rfl))) (ty := (.object "java/util/Optional")) (by decide)
      refine OwnGoes.step (T' := T28) (g' := (mkF m 139 #[.val (.int p1), .val (.int p2), .val (.int p3), .val (.int p4), .val (.int (1 : Int32)), .val (.ref x_19), .val (.ref x_20), .val (.ref x_21), .val (.int kk), .val (.int z22_0), .val (.ref x_23), .val (.ref b24), .val (.ref o_27), .unset, .unset, .unset] [(.ref o_27), (.ref b24), (.int z22_0), (.ref x_19), (.ref b28), (.ref b28)])) (fun tgt kgo => ?_) ?_
      · show Steps p.tables e below (T28.setTop (mkF m 130 #[.val (.int p1), .val (.int p2), .val (.int p3), .val (.int p4), .val (.int (1 : Int32)), .val (.ref x_19), .val (.ref x_20), .val (.ref x_21), .val (.int kk), .val (.int z22_0), .val (.ref x_23), .val (.ref b24), .val (.ref o_27), .unset, .unset, .unset] [(.ref b28)])) tgt
        refine XS.dup X28.here hx rfl (hb hby at_130) rfl rfl ?_
        show Steps p.tables e below (T28.setTop (mkF m 131 #[.val (.int p1), .val (.int p2), .val (.int p3), .val (.int p4), .val (.int (1 : Int32)), .val (.ref x_19), .val (.ref x_20), .val (.ref x_21), .val (.int kk), .val (.int z22_0), .val (.ref x_23), .val (.ref b24), .val (.ref o_27), .unset, .unset, .unset] [(.ref b28), (.ref b28)])) tgt
        refine XS.aload X28.here hx rfl (hb hby at_131) rfl rfl ?_
        show Steps p.tables e below (T28.setTop (mkF m 133 #[.val (.int p1), .val (.int p2), .val (.int p3), .val (.int p4), .val (.int (1 : Int32)), .val (.ref x_19), .val (.ref x_20), .val (.ref x_21), .val (.int kk), .val (.int z22_0), .val (.ref x_23), .val (.ref b24), .val (.ref o_27), .unset, .unset, .unset] [(.ref x_19), (.ref b28), (.ref b28)])) tgt
        refine XS.iload X28.here hx rfl (hb hby at_133) rfl ?_
        show Steps p.tables e below (T28.setTop (mkF m 135 #[.val (.int p1), .val (.int p2), .val (.int p3), .val (.int p4), .val (.int (1 : Int32)), .val (.ref x_19), .val (.ref x_20), .val (.ref x_21), .val (.int kk), .val (.int z22_0), .val (.ref x_23), .val (.ref b24), .val (.ref o_27), .unset, .unset, .unset] [(.int z22_0), (.ref x_19), (.ref b28), (.ref b28)])) tgt
        refine XS.aload X28.here hx rfl (hb hby at_135) rfl rfl ?_
        show Steps p.tables e below (T28.setTop (mkF m 137 #[.val (.int p1), .val (.int p2), .val (.int p3), .val (.int p4), .val (.int (1 : Int32)), .val (.ref x_19), .val (.ref x_20), .val (.ref x_21), .val (.int kk), .val (.int z22_0), .val (.ref x_23), .val (.ref b24), .val (.ref o_27), .unset, .unset, .unset] [(.ref b24), (.int z22_0), (.ref x_19), (.ref b28), (.ref b28)])) tgt
        refine XS.aload X28.here hx rfl (hb hby at_137) rfl rfl ?_
        exact kgo
      obtain ⟨_, _, ⟨T29, L29, k29, n29⟩, -, X29, ⟨Lc29, hQ29, l29, y29, z29⟩, st29⟩ := X28.specialBack hx (y := (⟨"com/example/veilstone/veilstone/fhir/Definitions$Element", "<init>", "(Ljava/lang/String;ZLjava/util/List;Ljava/util/Optional;)V"⟩ : MethodName)) rfl ho23 (mvT hZ23 (hw _ (List.mem_of_getElem? (i := 109) rfl))) (mvT hZ23 (hw _ (List.mem_of_getElem? (i := 110) rfl))) (mvT hZ23 (hw _ (List.mem_of_getElem? (i := 111) rfl))) (by decide) (backOf (W := 1) (rm_eli l Z a0 hw [] wG1 wO2 wP5 wG3 wO4 wrG3 hstr wG5 wK5 wO5 wV5 wG6 wO6 wE6 wF6 hEL h28 n0 Ol28 b28 x_19 z22_0 b24 o_27 A28 F28_318 F28_319 F28_320 F28_321 g_b28) hZ23 (hw _ (List.mem_of_getElem? (i := 111) rfl)) (hw _ (List.mem_of_getElem? (i := 108) rfl)) (by decide) (by decide)) (g := (mkF m 139 #[.val (.int p1), .val (.int p2), .val (.int p3), .val (.int p4), .val (.int (1 : Int32)), .val (.ref x_19), .val (.ref x_20), .val (.ref x_21), .val (.int kk), .val (.int z22_0), .val (.ref x_23), .val (.ref b24), .val (.ref o_27), .unset, .unset, .unset] [(.ref o_27), (.ref b24), (.int z22_0), (.ref x_19), (.ref b28), (.ref b28)])) rfl (by rw [hml]; rfl) (Steps.refl _) (a := b28) (argsL := [(.ref x_19), (.int z22_0), (.ref b24), (.ref o_27)]) (rest := [(.ref b28)]) (lenOf pd_68560485 rfl) rfl (by show 2 * 0 + _ ≤ _; exact Nat.le_of_eq rfl) (hb hby at_139) (fun _ _ => ⟨rfl, e28, (by decide : 24 + 0 ≤ _), (by decide : 118 + 0 ≤ _)⟩)
      dsimp only [Pt.U, Pt.locs, Pt.cells, Pt.slots] at X29 l29 y29 z29 st29 hQ29
      subst l29 y29 z29
      obtain ⟨rfl, Nq29, Kq29, fq29_0, fq29_1, fq29_2⟩ := hQ29
      refine OwnGoes.tr (T' := T29) (g' := (mkF m 142 #[.val (.int p1), .val (.int p2), .val (.int p3), .val (.int p4), .val (.int (1 : Int32)), .val (.ref x_19), .val (.ref x_20), .val (.ref x_21), .val (.int kk), .val (.int z22_0), .val (.ref x_23), .val (.ref b24), .val (.ref o_27), .unset, .unset, .unset] [(.ref b28)])) st29 ?_
      have N29 := Fr.app N27 Nq29
      have F29_322 := F28_295.keep Kq29 (ninS ne_wG5_b28 nin0)
      have F29_323 := F28_296.keep Kq29
      have F29_324 := F28_297.keep Kq29 (ninS ne_wG6_b28 nin0)
      have F29_325 := F28_298.keep Kq29
      have F29_326 := F28_299.keep Kq29 (ninS ne_x_19_b28 nin0)
      have F29_327 := F28_300.keep Kq29 (ninS ne_x_19_b28 nin0)
      have F29_328 := F28_301.keep Kq29 (ninS ne_t_19_b28 nin0)
      have F29_329 := F28_302.keep Kq29
      have F29_330 := F28_303.keep Kq29 (ninS ne_x_20_b28 nin0)
      have F29_331 := F28_304.keep Kq29 (ninS ne_x_20_b28 nin0)
      have F29_332 := F28_305.keep Kq29 (ninS ne_t_20_b28 nin0)
      have F29_333 := F28_306.keep Kq29
      have F29_334 := F28_307.keep Kq29 (ninS ne_x_21_b28 nin0)
      have F29_335 := F28_308.keep Kq29 (ninS ne_x_21_b28 nin0)
      have F29_336 := F28_309.keep Kq29 (ninS ne_t_21_b28 nin0)
      have F29_337 := F28_310.keep Kq29
      have F29_338 := F28_311.keep Kq29 (ninS ne_x_23_b28 nin0)
      have F29_339 := F28_312.keep Kq29 (ninS ne_x_23_b28 nin0)
      have F29_340 := F28_313.keep Kq29 (ninS ne_t_23_b28 nin0)
      have F29_341 := Safe.keep Kq29 (sfS Sf28 sf0) R28.1 F28_314
      have F29_342 := F28_315.keep Kq29
      have F29_343 := F28_316.keep Kq29
      have F29_344 := F28_317.keep Kq29 (ninS ne_o_27_b28 nin0)
      have F29_345 := Safe.keep Kq29 (sfS Sf28 sf0) R28.1 Sf28
      have F29_346 := A28.keep Kq29
      have Ol29 := Ol28.keep Kq29 (allS g_b28 all0)
      have K29 : Keep h0 T29.heap ([] : List Addr) := K28.trans Kq29 (allS (Or.inr s_b28) all0)
      have R29 := R28.trans (CHr.keep Kq29 (sfS Sf28 sf0) R28.1)
      have hk29 := Nat.le_trans hk28 Kq29.1
      refine OwnGoes.step (T' := T29) (g' := (mkF m 148 #[.val (.int p1), .val (.int p2), .val (.int p3), .val (.int p4), .val (.int (1 : Int32)), .val (.ref x_19), .val (.ref x_20), .val (.ref x_21), .val (.int kk), .val (.int z22_0), .val (.ref x_23), .val (.ref b24), .val (.ref o_27), .val (.ref b28), .unset, .unset] [(.ref x_23), (.ref b28)])) (fun tgt kgo => ?_) ?_
      · show Steps p.tables e below (T29.setTop (mkF m 142 #[.val (.int p1), .val (.int p2), .val (.int p3), .val (.int p4), .val (.int (1 : Int32)), .val (.ref x_19), .val (.ref x_20), .val (.ref x_21), .val (.int kk), .val (.int z22_0), .val (.ref x_23), .val (.ref b24), .val (.ref o_27), .unset, .unset, .unset] [(.ref b28)])) tgt
        refine XS.astore X29.here hx rfl (hb hby at_142) rfl rfl (l' := #[.val (.int p1), .val (.int p2), .val (.int p3), .val (.int p4), .val (.int (1 : Int32)), .val (.ref x_19), .val (.ref x_20), .val (.ref x_21), .val (.int kk), .val (.int z22_0), .val (.ref x_23), .val (.ref b24), .val (.ref o_27), .val (.ref b28), .unset, .unset]) rfl ?_
        show Steps p.tables e below (T29.setTop (mkF m 144 #[.val (.int p1), .val (.int p2), .val (.int p3), .val (.int p4), .val (.int (1 : Int32)), .val (.ref x_19), .val (.ref x_20), .val (.ref x_21), .val (.int kk), .val (.int z22_0), .val (.ref x_23), .val (.ref b24), .val (.ref o_27), .val (.ref b28), .unset, .unset] [])) tgt
        refine XS.aload X29.here hx rfl (hb hby at_144) rfl rfl ?_
        show Steps p.tables e below (T29.setTop (mkF m 146 #[.val (.int p1), .val (.int p2), .val (.int p3), .val (.int p4), .val (.int (1 : Int32)), .val (.ref x_19), .val (.ref x_20), .val (.ref x_21), .val (.int kk), .val (.int z22_0), .val (.ref x_23), .val (.ref b24), .val (.ref o_27), .val (.ref b28), .unset, .unset] [(.ref b28)])) tgt
        refine XS.aload X29.here hx rfl (hb hby at_146) rfl rfl ?_
        exact kgo
      obtain ⟨cq30, kq30, q30a, q30b, q30c⟩ := isOf (s := (s.setVm T23.vm)) hZ23 rfl fq29_0
      obtain ⟨_, _, ⟨T30, L30, k30, n30⟩, -, X30, ⟨Lc30, hQ30, l30, y30, z30⟩, st30⟩ := X29.virtualBack hx (y := (⟨"com/example/veilstone/veilstone/fhir/Definitions$Element", "elementsOf", "(Ljava/lang/String;)Ljava/lang/String;"⟩ : MethodName)) (z := (⟨"com/example/veilstone/veilstone/fhir/Definitions$Element", "elementsOf", "(Ljava/lang/String;)Ljava/lang/String;"⟩ : MethodName)) ho23 (mvT hZ23 (hw _ (List.mem_of_getElem? (i := 126) rfl))) (mvT hZ23 (hw _ (List.mem_of_getElem? (i := 127) rfl))) (notFace_of_selects (args := #[]) (mvT hZ23 (hw _ (List.mem_of_getElem? (i := 129) rfl)))) (mvT hZ23 (hw _ (List.mem_of_getElem? (i := 129) rfl))) (mvT hZ23 (hw _ (List.mem_of_getElem? (i := 128) rfl))) (by decide) (backOf (W := 0) (rm_elp l Z a0 hw [] wG1 wO2 wP5 wG3 wO4 wrG3 hstr wG5 wK5 wO5 wV5 wG6 wO6 wE6 wF6 hEL T29.heap n0 Ol29 b28 x_23 o_27 x_21 fq29_2 F29_343 F29_344 F29_333) hZ23 (hw _ (List.mem_of_getElem? (i := 130) rfl)) (hw _ (List.mem_of_getElem? (i := 108) rfl)) (by decide) (by decide)) q30a q30c (g := (mkF m 148 #[.val (.int p1), .val (.int p2), .val (.int p3), .val (.int p4), .val (.int (1 : Int32)), .val (.ref x_19), .val (.ref x_20), .val (.ref x_21), .val (.int kk), .val (.int z22_0), .val (.ref x_23), .val (.ref b24), .val (.ref o_27), .val (.ref b28), .unset, .unset] [(.ref x_23), (.ref b28)])) rfl (by rw [hml]; rfl) (Steps.refl _) (argsL := [(.ref x_23)]) (rest := []) (lenOf pd_3111897 rfl) rfl (by show 2 * 0 + _ ≤ _; exact Nat.le_of_eq rfl) (hb hby at_148) (fun _ _ => ⟨rfl, rfl, (by decide : 24 + 0 ≤ _), (by decide : 118 + 0 ≤ _)⟩)
      dsimp only [Pt.U, Pt.locs, Pt.cells, Pt.slots] at X30 l30 y30 z30 st30 hQ30
      subst l30 y30 z30
      obtain ⟨rfl, Nq30, eq30⟩ := hQ30
      refine OwnGoes.tr (T' := T30) (g' := (mkF m 151 #[.val (.int p1), .val (.int p2), .val (.int p3), .val (.int p4), .val (.int (1 : Int32)), .val (.ref x_19), .val (.ref x_20), .val (.ref x_21), .val (.int kk), .val (.int z22_0), .val (.ref x_23), .val (.ref b24), .val (.ref o_27), .val (.ref b28), .unset, .unset] [(.ref x_21)])) st30 ?_
      have N30 := Fr.app N29 Nq30
      refine OwnGoes.step (T' := T30) (g' := (mkF m 191 #[.val (.int p1), .val (.int p2), .val (.int p3), .val (.int p4), .val (.int (1 : Int32)), .val (.ref x_19), .val (.ref x_20), .val (.ref x_21), .val (.int kk), .val (.int z22_0), .val (.ref x_23), .val (.ref b24), .val (.ref o_27), .val (.ref b28), .val (.ref x_21), .val (.ref x_21)] [(.ref x_21), (.ref x_21)])) (fun tgt kgo => ?_) ?_
      · show Steps p.tables e below (T30.setTop (mkF m 151 #[.val (.int p1), .val (.int p2), .val (.int p3), .val (.int p4), .val (.int (1 : Int32)), .val (.ref x_19), .val (.ref x_20), .val (.ref x_21), .val (.int kk), .val (.int z22_0), .val (.ref x_23), .val (.ref b24), .val (.ref o_27), .val (.ref b28), .unset, .unset] [(.ref x_21)])) tgt
        refine XS.astore X30.here hx rfl (hb hby at_151) rfl rfl (l' := #[.val (.int p1), .val (.int p2), .val (.int p3), .val (.int p4), .val (.int (1 : Int32)), .val (.ref x_19), .val (.ref x_20), .val (.ref x_21), .val (.int kk), .val (.int z22_0), .val (.ref x_23), .val (.ref b24), .val (.ref o_27), .val (.ref b28), .val (.ref x_21), .unset]) rfl ?_
        show Steps p.tables e below (T30.setTop (mkF m 153 #[.val (.int p1), .val (.int p2), .val (.int p3), .val (.int p4), .val (.int (1 : Int32)), .val (.ref x_19), .val (.ref x_20), .val (.ref x_21), .val (.int kk), .val (.int z22_0), .val (.ref x_23), .val (.ref b24), .val (.ref o_27), .val (.ref b28), .val (.ref x_21), .unset] [])) tgt
        refine XS.iload X30.here hx rfl (hb hby at_153) rfl ?_
        show Steps p.tables e below (T30.setTop (mkF m 155 #[.val (.int p1), .val (.int p2), .val (.int p3), .val (.int p4), .val (.int (1 : Int32)), .val (.ref x_19), .val (.ref x_20), .val (.ref x_21), .val (.int kk), .val (.int z22_0), .val (.ref x_23), .val (.ref b24), .val (.ref o_27), .val (.ref b28), .val (.ref x_21), .unset] [(.int (1 : Int32))])) tgt
        refine XS.ifNo X30.here hx rfl (hb hby at_155) rfl ((if0 _ _).trans (feq (by decide : ¬ ((1 : Int32) = (0 : Int32)))).1) ?_
        show Steps p.tables e below (T30.setTop (mkF m 158 #[.val (.int p1), .val (.int p2), .val (.int p3), .val (.int p4), .val (.int (1 : Int32)), .val (.ref x_19), .val (.ref x_20), .val (.ref x_21), .val (.int kk), .val (.int z22_0), .val (.ref x_23), .val (.ref b24), .val (.ref o_27), .val (.ref b28), .val (.ref x_21), .unset] [])) tgt
        refine XS.aload X30.here hx rfl (hb hby at_158) rfl rfl ?_
        show Steps p.tables e below (T30.setTop (mkF m 160 #[.val (.int p1), .val (.int p2), .val (.int p3), .val (.int p4), .val (.int (1 : Int32)), .val (.ref x_19), .val (.ref x_20), .val (.ref x_21), .val (.int kk), .val (.int z22_0), .val (.ref x_23), .val (.ref b24), .val (.ref o_27), .val (.ref b28), .val (.ref x_21), .unset] [(.ref x_21)])) tgt
        refine XS.astore X30.here hx rfl (hb hby at_160) rfl rfl (l' := #[.val (.int p1), .val (.int p2), .val (.int p3), .val (.int p4), .val (.int (1 : Int32)), .val (.ref x_19), .val (.ref x_20), .val (.ref x_21), .val (.int kk), .val (.int z22_0), .val (.ref x_23), .val (.ref b24), .val (.ref o_27), .val (.ref b28), .val (.ref x_21), .val (.ref x_21)]) rfl ?_
        show Steps p.tables e below (T30.setTop (mkF m 162 #[.val (.int p1), .val (.int p2), .val (.int p3), .val (.int p4), .val (.int (1 : Int32)), .val (.ref x_19), .val (.ref x_20), .val (.ref x_21), .val (.int kk), .val (.int z22_0), .val (.ref x_23), .val (.ref b24), .val (.ref o_27), .val (.ref b28), .val (.ref x_21), .val (.ref x_21)] [])) tgt
        refine XS.goto X30.here hx rfl (pc0 := 162) (pc' := 182) rfl (hb hby at_162) (by decide) (by decide) ?_
        show Steps p.tables e below (T30.setTop (mkF m 182 #[.val (.int p1), .val (.int p2), .val (.int p3), .val (.int p4), .val (.int (1 : Int32)), .val (.ref x_19), .val (.ref x_20), .val (.ref x_21), .val (.int kk), .val (.int z22_0), .val (.ref x_23), .val (.ref b24), .val (.ref o_27), .val (.ref b28), .val (.ref x_21), .val (.ref x_21)] [])) tgt
        refine XS.aload X30.here hx rfl (hb hby at_182) rfl rfl ?_
        show Steps p.tables e below (T30.setTop (mkF m 184 #[.val (.int p1), .val (.int p2), .val (.int p3), .val (.int p4), .val (.int (1 : Int32)), .val (.ref x_19), .val (.ref x_20), .val (.ref x_21), .val (.int kk), .val (.int z22_0), .val (.ref x_23), .val (.ref b24), .val (.ref o_27), .val (.ref b28), .val (.ref x_21), .val (.ref x_21)] [(.ref x_21)])) tgt
        refine XS.ifnullNo X30.here hx rfl (hb hby at_184) rfl ?_
        show Steps p.tables e below (T30.setTop (mkF m 187 #[.val (.int p1), .val (.int p2), .val (.int p3), .val (.int p4), .val (.int (1 : Int32)), .val (.ref x_19), .val (.ref x_20), .val (.ref x_21), .val (.int kk), .val (.int z22_0), .val (.ref x_23), .val (.ref b24), .val (.ref o_27), .val (.ref b28), .val (.ref x_21), .val (.ref x_21)] [])) tgt
        refine XS.aload X30.here hx rfl (hb hby at_187) rfl rfl ?_
        show Steps p.tables e below (T30.setTop (mkF m 189 #[.val (.int p1), .val (.int p2), .val (.int p3), .val (.int p4), .val (.int (1 : Int32)), .val (.ref x_19), .val (.ref x_20), .val (.ref x_21), .val (.int kk), .val (.int z22_0), .val (.ref x_23), .val (.ref b24), .val (.ref o_27), .val (.ref b28), .val (.ref x_21), .val (.ref x_21)] [(.ref x_21)])) tgt
        refine XS.aload X30.here hx rfl (hb hby at_189) rfl rfl ?_
        exact kgo
      obtain ⟨cq31, kq31, q31a, q31b, q31c⟩ := isOf (s := (s.setVm T23.vm)) hZ23 eq30 F29_333
      obtain ⟨_, _, ⟨T31, L31, k31, n31⟩, -, X31, ⟨Lc31, hQ31, l31, y31, z31⟩, st31⟩ := X30.virtualBack hx (y := (⟨"java/lang/String", "equals", "(Ljava/lang/Object;)Z"⟩ : MethodName)) (z := (⟨"java/lang/String", "equals", "(Ljava/lang/Object;)Z"⟩ : MethodName)) ho23 (mvT hZ23 (hw _ (List.mem_of_getElem? (i := 142) rfl))) (mvT hZ23 (hw _ (List.mem_of_getElem? (i := 143) rfl))) (notFace_of_selects (args := #[]) (mvT hZ23 (hw _ (List.mem_of_getElem? (i := 145) rfl)))) (mvT hZ23 (hw _ (List.mem_of_getElem? (i := 145) rfl))) (mvT hZ23 (hw _ (List.mem_of_getElem? (i := 144) rfl))) (by decide) (backOf (W := 0) (rm_eqsame l Z a0 hw [] wG1 wO2 wP5 wG3 wO4 wrG3 hstr wG5 wK5 wO5 wV5 wG6 wO6 wE6 wF6 hEL T29.heap n0 Ol29 x_21) hZ23 (hw _ (List.mem_of_getElem? (i := 146) rfl)) (hw _ (List.mem_of_getElem? (i := 6) rfl)) (by decide) (by decide)) q31a q31c (g := (mkF m 191 #[.val (.int p1), .val (.int p2), .val (.int p3), .val (.int p4), .val (.int (1 : Int32)), .val (.ref x_19), .val (.ref x_20), .val (.ref x_21), .val (.int kk), .val (.int z22_0), .val (.ref x_23), .val (.ref b24), .val (.ref o_27), .val (.ref b28), .val (.ref x_21), .val (.ref x_21)] [(.ref x_21), (.ref x_21)])) rfl (by rw [hml]; rfl) (Steps.refl _) (argsL := [(.ref x_21)]) (rest := []) (lenOf pd_81697300 rfl) rfl (by show 2 * 0 + _ ≤ _; exact Nat.le_of_eq rfl) (hb hby at_191) (fun _ _ => ⟨rfl, eq30, (by decide : 24 + 0 ≤ _), (by decide : 118 + 0 ≤ _)⟩)
      dsimp only [Pt.U, Pt.locs, Pt.cells, Pt.slots] at X31 l31 y31 z31 st31 hQ31
      subst l31 y31 z31
      obtain ⟨rfl, Nq31, eq31⟩ := hQ31
      refine OwnGoes.tr (T' := T31) (g' := (mkF m 194 #[.val (.int p1), .val (.int p2), .val (.int p3), .val (.int p4), .val (.int (1 : Int32)), .val (.ref x_19), .val (.ref x_20), .val (.ref x_21), .val (.int kk), .val (.int z22_0), .val (.ref x_23), .val (.ref b24), .val (.ref o_27), .val (.ref b28), .val (.ref x_21), .val (.ref x_21)] [(.int (1 : Int32))])) st31 ?_
      have N31 := Fr.app N30 Nq31
      refine OwnGoes.step (T' := T31) (g' := (mkF m 202 #[.val (.int p1), .val (.int p2), .val (.int p3), .val (.int p4), .val (.int (1 : Int32)), .val (.ref x_19), .val (.ref x_20), .val (.ref x_21), .val (.int kk), .val (.int z22_0), .val (.ref x_23), .val (.ref b24), .val (.ref o_27), .val (.ref b28), .val (.ref x_21), .val (.ref x_21)] [(.int (1 : Int32))])) (fun tgt kgo => ?_) ?_
      · show Steps p.tables e below (T31.setTop (mkF m 194 #[.val (.int p1), .val (.int p2), .val (.int p3), .val (.int p4), .val (.int (1 : Int32)), .val (.ref x_19), .val (.ref x_20), .val (.ref x_21), .val (.int kk), .val (.int z22_0), .val (.ref x_23), .val (.ref b24), .val (.ref o_27), .val (.ref b28), .val (.ref x_21), .val (.ref x_21)] [(.int (1 : Int32))])) tgt
        refine XS.ifNo X31.here hx rfl (hb hby at_194) rfl ((if0 _ _).trans (feq (by decide : ¬ ((1 : Int32) = (0 : Int32)))).1) ?_
        show Steps p.tables e below (T31.setTop (mkF m 197 #[.val (.int p1), .val (.int p2), .val (.int p3), .val (.int p4), .val (.int (1 : Int32)), .val (.ref x_19), .val (.ref x_20), .val (.ref x_21), .val (.int kk), .val (.int z22_0), .val (.ref x_23), .val (.ref b24), .val (.ref o_27), .val (.ref b28), .val (.ref x_21), .val (.ref x_21)] [])) tgt
        refine XS.iconst X31.here hx rfl (hb hby at_197) ?_
        show Steps p.tables e below (T31.setTop (mkF m 198 #[.val (.int p1), .val (.int p2), .val (.int p3), .val (.int p4), .val (.int (1 : Int32)), .val (.ref x_19), .val (.ref x_20), .val (.ref x_21), .val (.int kk), .val (.int z22_0), .val (.ref x_23), .val (.ref b24), .val (.ref o_27), .val (.ref b28), .val (.ref x_21), .val (.ref x_21)] [(.int (1 : Int32))])) tgt
        refine XS.goto X31.here hx rfl (pc0 := 198) (pc' := 202) rfl (hb hby at_198) (by decide) (by decide) ?_
        exact kgo
      refine own_leaveW (Z := Z) (EL := consts_1) X31 hS23 (eq31 ▸ hk29) hlk (v := some (.int (1 : Int32))) (fun h => by rw [Bd.returns] at h; cases h) (fun fs hr => retN X31 hx (t := .boolean) Bd.returns (by simp) (hb hby at_202) (by rw [(by decide : nar .boolean (1 : Int32) = (1 : Int32))]; exact hr)) (by decide) (by decide) ?_ ?_
      · rw [hh, eq31]
        exact R29.trans (CHv.at X31 hZ23 hEL R29.1)
      show Q_law Z p1 p2 p3 p4 h0 n0 _ T31.heap _
      rw [eq31]
      exact ⟨rfl, N31⟩
    by_cases cc33 : (((p4.toUInt32 >>> ((13 : Int32) &&& 31).toUInt32).toInt32) &&& (1 : Int32)) = (0 : Int32)
    · skip
      refine OwnGoes.step (T' := T21) (g' := (mkF m 79 #[.val (.int p1), .val (.int p2), .val (.int p3), .val (.int p4), .val (.int (1 : Int32)), .val (.ref x_19), .val (.ref x_20), .val (.ref x_21), .val (.int kk), .unset, .unset, .unset, .unset, .unset, .unset, .unset] [(.int (0 : Int32))])) (fun tgt kgo => ?_) ?_
      · show Steps p.tables e below (T21.setTop (mkF m 71 #[.val (.int p1), .val (.int p2), .val (.int p3), .val (.int p4), .val (.int (1 : Int32)), .val (.ref x_19), .val (.ref x_20), .val (.ref x_21), .val (.int kk), .unset, .unset, .unset, .unset, .unset, .unset, .unset] [(.int (((p4.toUInt32 >>> ((13 : Int32) &&& 31).toUInt32).toInt32) &&& (1 : Int32)))])) tgt
        refine XS.ifYes X21.here hx rfl (pc0 := 71) (pc' := 78) rfl (hb hby at_71) rfl ((if0 _ _).trans (teq cc33).1) (by decide) (by decide) ?_
        show Steps p.tables e below (T21.setTop (mkF m 78 #[.val (.int p1), .val (.int p2), .val (.int p3), .val (.int p4), .val (.int (1 : Int32)), .val (.ref x_19), .val (.ref x_20), .val (.ref x_21), .val (.int kk), .unset, .unset, .unset, .unset, .unset, .unset, .unset] [])) tgt
        refine XS.iconst X21.here hx rfl (hb hby at_78) ?_
        exact kgo
      exact hj22 (0 : Int32)
    · skip
      refine OwnGoes.step (T' := T21) (g' := (mkF m 79 #[.val (.int p1), .val (.int p2), .val (.int p3), .val (.int p4), .val (.int (1 : Int32)), .val (.ref x_19), .val (.ref x_20), .val (.ref x_21), .val (.int kk), .unset, .unset, .unset, .unset, .unset, .unset, .unset] [(.int (1 : Int32))])) (fun tgt kgo => ?_) ?_
      · show Steps p.tables e below (T21.setTop (mkF m 71 #[.val (.int p1), .val (.int p2), .val (.int p3), .val (.int p4), .val (.int (1 : Int32)), .val (.ref x_19), .val (.ref x_20), .val (.ref x_21), .val (.int kk), .unset, .unset, .unset, .unset, .unset, .unset, .unset] [(.int (((p4.toUInt32 >>> ((13 : Int32) &&& 31).toUInt32).toInt32) &&& (1 : Int32)))])) tgt
        refine XS.ifNo X21.here hx rfl (hb hby at_71) rfl ((if0 _ _).trans (feq cc33).1) ?_
        show Steps p.tables e below (T21.setTop (mkF m 74 #[.val (.int p1), .val (.int p2), .val (.int p3), .val (.int p4), .val (.int (1 : Int32)), .val (.ref x_19), .val (.ref x_20), .val (.ref x_21), .val (.int kk), .unset, .unset, .unset, .unset, .unset, .unset, .unset] [])) tgt
        refine XS.iconst X21.here hx rfl (hb hby at_74) ?_
        show Steps p.tables e below (T21.setTop (mkF m 75 #[.val (.int p1), .val (.int p2), .val (.int p3), .val (.int p4), .val (.int (1 : Int32)), .val (.ref x_19), .val (.ref x_20), .val (.ref x_21), .val (.int kk), .unset, .unset, .unset, .unset, .unset, .unset, .unset] [(.int (1 : Int32))])) tgt
        refine XS.goto X21.here hx rfl (pc0 := 75) (pc' := 79) rfl (hb hby at_75) (by decide) (by decide) ?_
        exact kgo
      exact hj22 (1 : Int32)
set_option maxRecDepth 65536 in
set_option maxHeartbeats 40000000 in
theorem comes_1 {Post : Tables → Env → Array Value → State → Outcome → State → Prop} (hpost : ∀ tb e args s v u, (limb_1_1.after args s (.returned v) u = true ∧ limb_1_2.after args s (.returned v) u = true ∧ True) → ReturnedEndW s (.returned v) u (Jvm.fieldLocs frame_1_writes args s ++ Jvm.arrayLocs frame_1_arrays args s ++ Jvm.staticLocs frame_1_statics s) 56 9472 → Post tb e args s (.returned v) u) :
    ArmFor flags0 classFile x code maxLocals ret World_1 tables_1 room_1 Calls_1 rest_1 Pre_1 Post := by
  intro l hfl _ _ p e ha hc hk s m args below hf hA hF happ hP
  obtain ⟨hcalls, hrest, hpre⟩ := hP
  obtain ⟨-, -, -, hnamed, -, -, -, hat⟩ := (Spec.applies_iff hf).mp happ
  obtain ⟨hg, hn⟩ := and_e (Cond.before_iff.mp (show (Jvm.Cond.and given_1 narrow_1).before args s = true from hpre))
  obtain ⟨gc, gr0⟩ := and_e hg
  obtain ⟨ga0, gr1⟩ := and_e gr0
  obtain ⟨ga1, gr2⟩ := and_e gr1
  obtain ⟨ga2, gr3⟩ := and_e gr2
  obtain ⟨w0, w1, w2, w3, rfl⟩ : ∃ w0 w1 w2 w3 : Value, args = #[w0, w1, w2, w3] := by
    have hs : args.size = 4 := by simpa [Cond.value, given_1] using gc
    obtain ⟨L⟩ := args
    match L, hs with
    | [w0, w1, w2, w3], _ => exact ⟨w0, w1, w2, w3, rfl⟩
  have hw := fun d (hd : d ∈ tables_1) => atoms_spec (ws := Jvm.Cond.code x code maxLocals ret :: tables_1) hat d (List.mem_cons_of_mem _ hd)
  have hfit : Fit s := fun {y c} hc i hi => by
    obtain ⟨ha, rfl⟩ := Array.getElem?_eq_some_iff.mp hc
    have q := List.all_eq_true.mp ((Array.all_eq_true_iff_forall_mem.mp hF) _ (Array.getElem_mem ha)) i (List.mem_range.mpr hi)
    simpa [Array.getElem?_eq_getElem hi] using q
  obtain ⟨hsets, hown0⟩ := atoms_of _ (rest_1_c_eq ▸ (show rest_1_c.before _ s = true from hrest))
  obtain ⟨i0, ei0⟩ := is_v ga0
  obtain rfl : w0 = (.int i0) := Option.some.inj ei0
  obtain ⟨i1, ei1⟩ := is_v ga1
  obtain rfl : w1 = (.int i1) := Option.some.inj ei1
  obtain ⟨i2, ei2⟩ := is_v ga2
  obtain rfl : w2 = (.int i2) := Option.some.inj ei2
  obtain ⟨i3, ei3⟩ := is_v gr3
  obtain rfl : w3 = (.int i3) := Option.some.inj ei3
  obtain ⟨wG1, e10⟩ := is_v (Cond.before_iff.mp (hsets _ (List.mem_of_getElem? (i := 14) rfl)))
  have wO2 : Sta s s.heap "java/lang/String" "COMPACT_STRINGS" "Z" (.int wG1) := Sta.start e10 (Or.inl (hsets _ (List.mem_of_getElem? (i := 13) rfl)))
  have wP5 : ¬ (wG1 = (0 : Int32)) := gotF (Cond.eq_ints e10 (Term.int_eval (0))) (not_v (Cond.before_iff.mp (hsets _ (List.mem_of_getElem? (i := 15) rfl))))
  obtain ⟨wG3, e14, wrG3⟩ := isR_v (Cond.before_iff.mp (hsets _ (List.mem_of_getElem? (i := 21) rfl)))
  have wO4 : Sta s s.heap "jdk/internal/util/Preconditions" "SIOOBE_FORMATTER" "Ljava/util/function/BiFunction;" wG3 := Sta.start e14 (Or.inl (hsets _ (List.mem_of_getElem? (i := 20) rfl)))
  have hstr : ∀ a ∈ Bundle.stringAtoms, a.before _ s = true := fun d hd => hw d ((by decide +kernel : ∀ d ∈ Bundle.stringAtoms, d ∈ tables_1) d hd)
  obtain ⟨wG5, _, cl5, _, e50, -, -, -, -, -, -⟩ := Cond.exactly_spec (hsets _ (List.mem_of_getElem? (i := 7) rfl))
  have wO5 : Sta s s.heap "java/util/ArrayList" "DEFAULTCAPACITY_EMPTY_ELEMENTDATA" "[Ljava/lang/Object;" (.ref wG5) := Sta.start e50 (Or.inr ⟨(hw _ (List.mem_of_getElem? (i := 32) rfl)), (hsets _ (List.mem_of_getElem? (i := 2) rfl))⟩)
  obtain ⟨wK5, wV5⟩ := own_arv0 hfit e50 (Cond.before_iff.mp (hsets _ (List.mem_of_getElem? (i := 6) rfl))) (Cond.before_iff.mp (hsets _ (List.mem_of_getElem? (i := 8) rfl)))
  obtain ⟨wG6, _, _, _, e60, -, -, -, -, -, -⟩ := Cond.exactly_spec (hsets _ (List.mem_of_getElem? (i := 11) rfl))
  have wO6 : Sta s s.heap "java/util/Optional" "EMPTY" "Ljava/util/Optional;" (.ref wG6) := Sta.start e60 (Or.inl (hsets _ (List.mem_of_getElem? (i := 10) rfl)))
  have wE6 : Exa s s.heap wG6 "java/util/Optional" := Exa.start e60 (Cond.before_iff.mp (hsets _ (List.mem_of_getElem? (i := 11) rfl)))
  have wF6 : Fld s s.heap wG6 "java/util/Optional" "value" "Ljava/lang/Object;" .null := own_fld_null e60 (Cond.before_iff.mp (hsets _ (List.mem_of_getElem? (i := 12) rfl)))
  have hEL : EW s _ consts_1 := (EW.cons (hw _ (List.mem_of_getElem? (i := 151) rfl)) (by decide) (EW.cons (hw _ (List.mem_of_getElem? (i := 169) rfl)) (by decide) (EW.cons (hw _ (List.mem_of_getElem? (i := 29) rfl)) (by decide) (EW.cons (hw _ (List.mem_of_getElem? (i := 172) rfl)) (by decide) (EW.cons (hw _ (List.mem_of_getElem? (i := 174) rfl)) (by decide) (EW.cons (hw _ (List.mem_of_getElem? (i := 171) rfl)) (by decide) (EW.cons (hw _ (List.mem_of_getElem? (i := 170) rfl)) (by decide) (EW.cons (hw _ (List.mem_of_getElem? (i := 173) rfl)) (by decide) (EW.cons (hw _ (List.mem_of_getElem? (i := 18) rfl)) (by decide) EW.nil)))))))))
  have hcw : Jvm.Lit.compactW.before _ s = true := (hsets _ (List.mem_of_getElem? (i := 15) rfl))
  have hH : CHv s consts_1 s.vm s.heap := CHv.start hEL (fun p hp => hcalls.1 p hp) hcw (hstr _ (by simp [Bundle.stringAtoms])) (hstr _ (by simp [Bundle.stringAtoms, Bundle.sN]))
  obtain ⟨n, o, h1, h2, h3, _, L, rfl, ⟨rfl, N⟩, -, hq⟩ := rm_law l s _ hw tables_1 wG1 wO2 wP5 wG3 wO4 wrG3 hstr wG5 wK5 wO5 wV5 wG6 wO6 wE6 wF6 hEL s.heap s.heap.size (Old.start s) i0 i1 i2 i3 p e ha hc hk s m _ below hf ((Spec.applies_iff_loose hf).mp happ).1 ⟨rfl, State.Warmed39.refl s, rfl, hH⟩ trivial
  refine ⟨n, _, h1, h2, h3, hpost _ _ _ _ _ _ ⟨Cond.after_iff.mpr rfl, Cond.after_iff.mpr (eq_i res_at (Term.int_eval (1)) rfl), trivial⟩ ⟨hq.1, hq.2.1, hq.2.2.1, (hq.2.2.2.sift fun y hy => Or.inr (N y hy)).mono (by decide) (by decide)⟩⟩
theorem main_1_1 : Claimed_1_1 := comes_1 fun _ _ _ _ _ _ h hF => ⟨h.1, hF⟩
theorem main_1_2 : Claimed_1_2 := comes_1 fun _ _ _ _ _ _ h hF => ⟨h.2.1, hF⟩
end Jvm.Pilot.@@N@@
namespace Jvm.Pilot.@@N@@
open Jvm Jvm.ClassFile Sem Op Lib Jvm.Free Jvm.Stand Jvm.Pilot.@@N@@.Jvm.D
/-! MADE BY PROGRAM (witnessworld.py) out of the Statement's table words and the real class files: 33 classes; the members and pool entries that the words name. The judged class is class 1, her method 3. -/
namespace start1
open Jvm.ClassFile
def u (s : String) : CpInfo := .utf8 (stringToUtf16 s)
/-- a pool by its gaps: so many unusable entries, then the entry; so many at the end -/
def gap : Nat → List CpInfo → List CpInfo
  | 0, r => r
  | n + 1, r => .unusable :: gap n r
def poolList (es : List (Nat × CpInfo)) (last : Nat) : List CpInfo := es.foldr (fun e r => gap e.1 (e.2 :: r)) (gap last [])
def pool (es : List (Nat × CpInfo)) (last : Nat) : Array CpInfo := ⟨poolList es last⟩
def fileOf (pool : Array CpInfo) (this : Nat) (attrs : Array Attribute := #[]) (ms : Array MethodInfo := #[]) (fl : Nat := 33) (sup : Nat := 0) (ifs : Array Nat := #[]) (fds : Array FieldInfo := #[]) : ClassFile where
  minorVersion := 0
  majorVersion := 65
  constantPool := pool
  accessFlags := fl
  thisClass := this
  superClass := sup
  interfaces := ifs
  fields := fds
  methods := ms
  attributes := attrs
def plain (name : String) (sup : Option ClassId) : Class where
  name := name
  kind := .ordinary
  loader := none
  accessFlags := 33
  super := sup
  interfaces := #[]
  cf := none
  fields := #[]
  methods := #[]
  instanceTypes := #[]
  staticTypes := #[]
  resolved := #[]
  callSites := []
  init := .initialized
  statics := none
  mirror := none

def pool0 : Array CpInfo := pool [(5, u "<init>"), (0, u "()V"), (1, .class_ 10), (1, u "java/lang/Object")] 113

def k0c0 : Code := { maxStack := 0, maxLocals := 1, code := object_method_1_code, exceptionTable := #[], attributes := #[] }
def k0m0 : Method := { name := "<init>", desc := "()V", sig := { parameters := [], returnType := none }, accessFlags := 1, code := some k0c0 }
/-- java/lang/Object -/
def k0 : Class := { plain "java/lang/Object" none with
  accessFlags := 33
  interfaces := #[]
  cf := some (fileOf pool0 8 #[] #[{ accessFlags := 1, nameIndex := 5, descriptorIndex := 6, attributes := #[] }] 33 0 #[] #[])
  fields := #[]
  methods := #[k0m0]
  instanceTypes := #[]
  staticTypes := #[]
  resolved := Array.replicate 124 none
  statics := none }

def pool1 : Array CpInfo := pool [(2, .class_ 4), (0, .nameAndType 5 6), (0, u "java/lang/Object"), (0, u "<init>"), (0, u "()V"), (0, .class_ 8), (0, u "java/lang/String"), (0, .methodref 7 10), (0, .nameAndType 5 11), (0, u "([C)V"), (0, .string 13), (0, u "BackboneElement"), (0, .string 15), (0, u "Element"), (0, .string 17), (0, u "element"), (0, .string 19), (0, u "BackboneElemen"), (0, .string 21), (0, u "Elements"), (0, .string 23), (0, u "Backbone"), (0, .methodref 25 26), (0, .class_ 27), (0, .nameAndType 28 29), (0, u "com/example/veilstone/veilstone/fhir/ElementElementsOfPinLaw"), (0, u "str"), (0, u "(II)Ljava/lang/String;"), (0, .methodref 25 31), (0, .nameAndType 32 33), (0, u "typeOf"), (0, u "(ILjava/lang/String;)Ljava/lang/String;"), (0, .class_ 35), (0, u "java/util/ArrayList"), (0, .methodref 34 3), (0, .interfaceMethodref 38 39), (0, .class_ 40), (0, .nameAndType 41 42), (0, u "java/util/List"), (0, u "add"), (0, u "(Ljava/lang/Object;)Z"), (0, .methodref 44 45), (0, .class_ 46), (0, .nameAndType 47 48), (0, u "java/util/Optional"), (0, u "of"), (0, u "(Ljava/lang/Object;)Ljava/util/Optional;"), (0, .methodref 44 50), (0, .nameAndType 51 52), (0, u "empty"), (0, u "()Ljava/util/Optional;"), (0, .class_ 54), (0, u "com/example/veilstone/veilstone/fhir/Definitions$Element"), (0, .methodref 53 56), (0, .nameAndType 5 57), (0, u "(Ljava/lang/String;ZLjava/util/List;Ljava/util/Optional;)V"), (0, .methodref 53 59), (0, .nameAndType 60 61), (0, u "elementsOf"), (0, u "(Ljava/lang/String;)Ljava/lang/String;"), (0, .methodref 7 63), (0, .nameAndType 64 42), (0, u "equals"), (3, u "law"), (0, u "(IIII)Z")] 5

def k1m0 : Method := { name := "<init>", desc := "()V", sig := { parameters := [], returnType := none }, accessFlags := 2, code := none }
def k1c1 : Code := { maxStack := 6, maxLocals := 6, code := method_2_code, exceptionTable := #[], attributes := #[] }
def k1m1 : Method := { name := "str", desc := "(II)Ljava/lang/String;", sig := { parameters := [.int, .int], returnType := some (.object "java/lang/String") }, accessFlags := 10, code := some k1c1 }
def k1c2 : Code := { maxStack := 2, maxLocals := 2, code := method_3_code, exceptionTable := #[], attributes := #[] }
def k1m2 : Method := { name := "typeOf", desc := "(ILjava/lang/String;)Ljava/lang/String;", sig := { parameters := [.int, (.object "java/lang/String")], returnType := some (.object "java/lang/String") }, accessFlags := 10, code := some k1c2 }
def k1c3 : Code := { maxStack := 6, maxLocals := 16, code := code, exceptionTable := #[], attributes := #[] }
def k1m3 : Method := { name := "law", desc := "(IIII)Z", sig := { parameters := [.int, .int, .int, .int], returnType := some .boolean }, accessFlags := 9, code := some k1c3 }
/-- com/example/veilstone/veilstone/fhir/ElementElementsOfPinLaw -/
def k1 : Class := { plain "com/example/veilstone/veilstone/fhir/ElementElementsOfPinLaw" (some 0) with
  accessFlags := 49
  interfaces := #[]
  cf := some (fileOf pool1 25 #[] #[{ accessFlags := 2, nameIndex := 5, descriptorIndex := 6, attributes := #[] }, { accessFlags := 10, nameIndex := 28, descriptorIndex := 29, attributes := #[] }, { accessFlags := 10, nameIndex := 32, descriptorIndex := 33, attributes := #[] }, { accessFlags := 9, nameIndex := 68, descriptorIndex := 69, attributes := #[] }] 49 2 #[] #[])
  fields := #[]
  methods := #[k1m0, k1m1, k1m2, k1m3]
  instanceTypes := #[]
  staticTypes := #[]
  resolved := Array.replicate 75 none
  statics := none }

def pool2 : Array CpInfo := pool [(1, .class_ 2), (0, u "java/io/Serializable"), (0, .class_ 4), (0, u "java/lang/Object")] 2

/-- java/io/Serializable -/
def k2 : Class := { plain "java/io/Serializable" (some 0) with
  accessFlags := 1537
  interfaces := #[]
  cf := some (fileOf pool2 1 #[] #[] 1537 3 #[] #[])
  fields := #[]
  methods := #[]
  instanceTypes := #[]
  staticTypes := #[]
  resolved := Array.replicate 7 none
  statics := none }

def pool3 : Array CpInfo := pool [(1, .class_ 2), (0, u "java/lang/Comparable"), (0, .class_ 4), (0, u "java/lang/Object")] 7

/-- java/lang/Comparable -/
def k3 : Class := { plain "java/lang/Comparable" (some 0) with
  accessFlags := 1537
  interfaces := #[]
  cf := some (fileOf pool3 1 #[] #[] 1537 3 #[] #[])
  fields := #[]
  methods := #[]
  instanceTypes := #[]
  staticTypes := #[]
  resolved := Array.replicate 12 none
  statics := none }

def pool4 : Array CpInfo := pool [(2, .class_ 4), (1, u "java/lang/CharSequence"), (42, .class_ 48), (0, u "java/lang/CharSequence$1CodePointIterator"), (10, .class_ 60), (0, u "java/lang/CharSequence$1CharIterator"), (5, .class_ 67), (0, u "java/lang/Object")] 63

/-- java/lang/CharSequence -/
def k4 : Class := { plain "java/lang/CharSequence" (some 0) with
  accessFlags := 1537
  interfaces := #[]
  cf := some (fileOf pool4 2 #[.nestMembers #[47, 59]] #[] 1537 66 #[] #[])
  fields := #[]
  methods := #[]
  instanceTypes := #[]
  staticTypes := #[]
  resolved := Array.replicate 131 none
  statics := none }

def pool5 : Array CpInfo := pool [(1, .class_ 2), (0, u "java/lang/constant/Constable"), (0, .class_ 4), (0, u "java/lang/Object")] 6

/-- java/lang/constant/Constable -/
def k5 : Class := { plain "java/lang/constant/Constable" (some 0) with
  accessFlags := 1537
  interfaces := #[]
  cf := some (fileOf pool5 1 #[] #[] 1537 3 #[] #[])
  fields := #[]
  methods := #[]
  instanceTypes := #[]
  staticTypes := #[]
  resolved := Array.replicate 11 none
  statics := none }

def pool6 : Array CpInfo := pool [(1, .class_ 2), (0, u "java/lang/constant/ConstantDesc"), (0, .class_ 4), (0, u "java/lang/Object")] 32

/-- java/lang/constant/ConstantDesc -/
def k6 : Class := { plain "java/lang/constant/ConstantDesc" (some 0) with
  accessFlags := 1537
  interfaces := #[]
  cf := some (fileOf pool6 1 #[] #[] 1537 3 #[] #[])
  fields := #[]
  methods := #[]
  instanceTypes := #[]
  staticTypes := #[]
  resolved := Array.replicate 37 none
  statics := none }

def pool7 : Array CpInfo := pool [(1, .methodref 2 3), (0, .class_ 4), (0, .nameAndType 5 6), (0, u "java/lang/Object"), (0, u "<init>"), (0, u "()V"), (0, .string 8), (0, u ""), (0, .fieldref 10 11), (0, .class_ 12), (0, .nameAndType 13 14), (0, u "java/lang/String"), (0, u "value"), (0, u "[B"), (0, .fieldref 10 16), (0, .nameAndType 17 18), (0, u "coder"), (0, u "B"), (2, u "hash"), (0, u "I"), (2, u "hashIsZero"), (0, u "Z"), (0, .methodref 10 28), (0, .nameAndType 5 29), (0, u "([CIILjava/lang/Void;)V"), (8, .fieldref 10 39), (0, .nameAndType 40 26), (0, u "COMPACT_STRINGS"), (1, .class_ 44), (1, u "java/lang/StringUTF16"), (0, u "compress"), (1, .methodref 42 48), (0, .nameAndType 49 50), (0, u "coderFromArrayLen"), (0, u "([BI)B"), (56, .class_ 109), (1, u "java/lang/StringLatin1"), (67, .methodref 42 178), (0, .nameAndType 45 179), (0, u "([CII)[B"), (361, .methodref 107 542), (0, .nameAndType 543 544), (0, u "equals"), (0, u "([B[B)Z"), (28, u "(Ljava/lang/Object;)Z"), (1, .class_ 576), (0, u "java/lang/CharSequence"), (22, u "CASE_INSENSITIVE_ORDER"), (0, u "Ljava/util/Comparator;"), (409, u "([C)V"), (90, u "serialPersistentFields"), (0, u "[Ljava/io/ObjectStreamField;"), (0, .class_ 1104), (0, u "java/lang/String$CaseInsensitiveComparator"), (1, .class_ 1107), (0, u "java/io/Serializable"), (0, .class_ 1109), (0, u "java/lang/Comparable"), (0, .class_ 1111), (0, u "java/lang/constant/Constable"), (0, .class_ 1113), (0, u "java/lang/constant/ConstantDesc"), (2, u "serialVersionUID"), (0, u "J"), (3, u "REPL"), (0, u "C"), (2, u "LATIN1"), (1, u "UTF16")] 323

def k7m0 : Method := { name := "<init>", desc := "()V", sig := { parameters := [], returnType := none }, accessFlags := 1, code := none }
def k7c1 : Code := { maxStack := 5, maxLocals := 2, code := jdk_42_method_3_code, exceptionTable := #[], attributes := #[] }
def k7m1 : Method := { name := "<init>", desc := "([C)V", sig := { parameters := [(.array .char)], returnType := none }, accessFlags := 1, code := some k7c1 }
def k7c2 : Code := { maxStack := 2, maxLocals := 3, code := jdk_42_method_66_code, exceptionTable := #[], attributes := #[] }
def k7m2 : Method := { name := "equals", desc := "(Ljava/lang/Object;)Z", sig := { parameters := [(.object "java/lang/Object")], returnType := some .boolean }, accessFlags := 1, code := some k7c2 }
def k7c3 : Code := { maxStack := 4, maxLocals := 6, code := jdk_42_method_149_code, exceptionTable := #[], attributes := #[] }
def k7m3 : Method := { name := "<init>", desc := "([CIILjava/lang/Void;)V", sig := { parameters := [(.array .char), .int, .int, (.object "java/lang/Void")], returnType := none }, accessFlags := 2, code := some k7c3 }
/-- java/lang/String -/
def k7 : Class := { plain "java/lang/String" (some 0) with
  accessFlags := 49
  interfaces := #[2, 3, 4, 5, 6]
  cf := some (fileOf pool7 10 #[.nestMembers #[1103]] #[{ accessFlags := 1, nameIndex := 5, descriptorIndex := 6, attributes := #[] }, { accessFlags := 1, nameIndex := 5, descriptorIndex := 1010, attributes := #[] }, { accessFlags := 1, nameIndex := 543, descriptorIndex := 573, attributes := #[] }, { accessFlags := 2, nameIndex := 5, descriptorIndex := 29, attributes := #[] }] 49 2 #[1106, 1108, 575, 1110, 1112] #[{ accessFlags := 18, nameIndex := 13, descriptorIndex := 14, attributes := #[] }, { accessFlags := 18, nameIndex := 17, descriptorIndex := 18, attributes := #[] }, { accessFlags := 2, nameIndex := 21, descriptorIndex := 22, attributes := #[] }, { accessFlags := 2, nameIndex := 25, descriptorIndex := 26, attributes := #[] }, { accessFlags := 26, nameIndex := 1116, descriptorIndex := 1117, attributes := #[] }, { accessFlags := 24, nameIndex := 40, descriptorIndex := 26, attributes := #[] }, { accessFlags := 26, nameIndex := 1101, descriptorIndex := 1102, attributes := #[] }, { accessFlags := 26, nameIndex := 1121, descriptorIndex := 1122, attributes := #[] }, { accessFlags := 25, nameIndex := 599, descriptorIndex := 600, attributes := #[] }, { accessFlags := 24, nameIndex := 1125, descriptorIndex := 18, attributes := #[] }, { accessFlags := 24, nameIndex := 1127, descriptorIndex := 18, attributes := #[] }])
  fields := #[{ name := "value", type := (.array .byte), accessFlags := 18, slot := 0, constantValue := 0 }, { name := "coder", type := .byte, accessFlags := 18, slot := 1, constantValue := 0 }, { name := "hash", type := .int, accessFlags := 2, slot := 2, constantValue := 0 }, { name := "hashIsZero", type := .boolean, accessFlags := 2, slot := 3, constantValue := 0 }, { name := "serialVersionUID", type := .long, accessFlags := 26, slot := 0, constantValue := 0 }, { name := "COMPACT_STRINGS", type := .boolean, accessFlags := 24, slot := 1, constantValue := 0 }, { name := "serialPersistentFields", type := (.array (.object "java/io/ObjectStreamField")), accessFlags := 26, slot := 2, constantValue := 0 }, { name := "REPL", type := .char, accessFlags := 26, slot := 3, constantValue := 0 }, { name := "CASE_INSENSITIVE_ORDER", type := (.object "java/util/Comparator"), accessFlags := 25, slot := 4, constantValue := 0 }, { name := "LATIN1", type := .byte, accessFlags := 24, slot := 5, constantValue := 0 }, { name := "UTF16", type := .byte, accessFlags := 24, slot := 6, constantValue := 0 }]
  methods := #[k7m0, k7m1, k7m2, k7m3]
  instanceTypes := #[(.array .byte), .byte, .int, .boolean]
  staticTypes := #[.long, .boolean, (.array (.object "java/io/ObjectStreamField")), .char, (.object "java/util/Comparator"), .byte, .byte]
  resolved := Array.replicate 1451 none
  statics := some 0 }

def pool8 : Array CpInfo := pool [(8, .class_ 10), (1, u "java/lang/Iterable"), (24, .class_ 36), (0, u "java/lang/Object")] 25

/-- java/lang/Iterable -/
def k8 : Class := { plain "java/lang/Iterable" (some 0) with
  accessFlags := 1537
  interfaces := #[]
  cf := some (fileOf pool8 8 #[] #[] 1537 35 #[] #[])
  fields := #[]
  methods := #[]
  instanceTypes := #[]
  staticTypes := #[]
  resolved := Array.replicate 62 none
  statics := none }

def pool9 : Array CpInfo := pool [(10, .class_ 12), (1, u "java/util/Collection"), (47, .class_ 61), (0, u "java/lang/Object"), (0, .class_ 63), (0, u "java/lang/Iterable")] 51

/-- java/util/Collection -/
def k9 : Class := { plain "java/util/Collection" (some 0) with
  accessFlags := 1537
  interfaces := #[8]
  cf := some (fileOf pool9 10 #[] #[] 1537 60 #[62] #[])
  fields := #[]
  methods := #[]
  instanceTypes := #[]
  staticTypes := #[]
  resolved := Array.replicate 115 none
  statics := none }

def pool10 : Array CpInfo := pool [(1, .methodref 2 3), (0, .class_ 4), (0, .nameAndType 5 6), (0, u "java/lang/Object"), (0, u "<init>"), (0, u "()V"), (1, .class_ 10), (1, u "java/util/AbstractCollection"), (66, .class_ 78), (0, u "java/util/Collection")] 81

def k10c0 : Code := { maxStack := 1, maxLocals := 1, code := jdk_22_method_1_code, exceptionTable := #[], attributes := #[] }
def k10m0 : Method := { name := "<init>", desc := "()V", sig := { parameters := [], returnType := none }, accessFlags := 4, code := some k10c0 }
/-- java/util/AbstractCollection -/
def k10 : Class := { plain "java/util/AbstractCollection" (some 0) with
  accessFlags := 1057
  interfaces := #[9]
  cf := some (fileOf pool10 8 #[] #[{ accessFlags := 4, nameIndex := 5, descriptorIndex := 6, attributes := #[] }] 1057 2 #[77] #[])
  fields := #[]
  methods := #[k10m0]
  instanceTypes := #[]
  staticTypes := #[]
  resolved := Array.replicate 160 none
  statics := none }

def pool11 : Array CpInfo := pool [(8, .class_ 10), (1, u "java/util/SequencedCollection"), (15, .class_ 27), (0, u "java/lang/Object"), (0, .class_ 29), (0, u "java/util/Collection")] 27

/-- java/util/SequencedCollection -/
def k11 : Class := { plain "java/util/SequencedCollection" (some 0) with
  accessFlags := 1537
  interfaces := #[9]
  cf := some (fileOf pool11 8 #[] #[] 1537 26 #[28] #[])
  fields := #[]
  methods := #[]
  instanceTypes := #[]
  staticTypes := #[]
  resolved := Array.replicate 57 none
  statics := none }

def pool12 : Array CpInfo := pool [(8, .class_ 10), (1, u "java/util/List"), (49, u "add"), (3, u "(Ljava/lang/Object;)Z"), (38, .class_ 104), (0, u "java/lang/Object"), (15, .class_ 121), (0, u "java/util/SequencedCollection")] 129

def k12m0 : Method := { name := "add", desc := "(Ljava/lang/Object;)Z", sig := { parameters := [(.object "java/lang/Object")], returnType := some .boolean }, accessFlags := 1025, code := none }
/-- java/util/List -/
def k12 : Class := { plain "java/util/List" (some 0) with
  accessFlags := 1537
  interfaces := #[11]
  cf := some (fileOf pool12 8 #[] #[{ accessFlags := 1025, nameIndex := 60, descriptorIndex := 64, attributes := #[] }] 1537 103 #[120] #[])
  fields := #[]
  methods := #[k12m0]
  instanceTypes := #[]
  staticTypes := #[]
  resolved := Array.replicate 251 none
  statics := none }

def pool13 : Array CpInfo := pool [(1, .methodref 2 3), (0, .class_ 4), (0, .nameAndType 5 6), (0, u "java/util/AbstractCollection"), (0, u "<init>"), (0, u "()V"), (0, .fieldref 8 9), (0, .class_ 10), (0, .nameAndType 11 12), (0, u "java/util/AbstractList"), (0, u "modCount"), (0, u "I"), (64, .class_ 78), (0, u "java/util/AbstractList$Itr"), (3, .class_ 83), (0, u "java/util/AbstractList$ListItr"), (9, .class_ 94), (0, u "java/util/AbstractList$RandomAccessSubList"), (3, .class_ 99), (0, u "java/util/AbstractList$SubList"), (33, .class_ 134), (0, u "java/util/List"), (73, .class_ 209), (0, u "java/util/AbstractList$SubList$1"), (0, .class_ 211), (0, u "java/util/AbstractList$RandomAccessSpliterator")] 6

def k13c0 : Code := { maxStack := 2, maxLocals := 1, code := jdk_39_method_1_code, exceptionTable := #[], attributes := #[] }
def k13m0 : Method := { name := "<init>", desc := "()V", sig := { parameters := [], returnType := none }, accessFlags := 4, code := some k13c0 }
/-- java/util/AbstractList -/
def k13 : Class := { plain "java/util/AbstractList" (some 10) with
  accessFlags := 1057
  interfaces := #[12]
  cf := some (fileOf pool13 8 #[.nestMembers #[93, 98, 208, 210, 82, 77]] #[{ accessFlags := 4, nameIndex := 5, descriptorIndex := 6, attributes := #[] }] 1057 2 #[133] #[{ accessFlags := 132, nameIndex := 11, descriptorIndex := 12, attributes := #[] }])
  fields := #[{ name := "modCount", type := .int, accessFlags := 132, slot := 0, constantValue := 0 }]
  methods := #[k13m0]
  instanceTypes := #[.int]
  staticTypes := #[]
  resolved := Array.replicate 218 none
  statics := none }

def pool14 : Array CpInfo := pool [(1, .class_ 2), (0, u "java/util/RandomAccess"), (0, .class_ 4), (0, u "java/lang/Object")] 2

/-- java/util/RandomAccess -/
def k14 : Class := { plain "java/util/RandomAccess" (some 0) with
  accessFlags := 1537
  interfaces := #[]
  cf := some (fileOf pool14 1 #[] #[] 1537 3 #[] #[])
  fields := #[]
  methods := #[]
  instanceTypes := #[]
  staticTypes := #[]
  resolved := Array.replicate 7 none
  statics := none }

def pool15 : Array CpInfo := pool [(1, .class_ 2), (0, u "java/lang/Cloneable"), (0, .class_ 4), (0, u "java/lang/Object")] 2

/-- java/lang/Cloneable -/
def k15 : Class := { plain "java/lang/Cloneable" (some 0) with
  accessFlags := 1537
  interfaces := #[]
  cf := some (fileOf pool15 1 #[] #[] 1537 3 #[] #[])
  fields := #[]
  methods := #[]
  instanceTypes := #[]
  staticTypes := #[]
  resolved := Array.replicate 7 none
  statics := none }

def pool16 : Array CpInfo := pool [(1, .methodref 2 3), (0, .class_ 4), (0, .nameAndType 5 6), (0, u "java/util/AbstractList"), (0, u "<init>"), (0, u "()V"), (0, .class_ 8), (0, u "java/lang/Object"), (0, .fieldref 10 11), (0, .class_ 12), (0, .nameAndType 13 14), (0, u "java/util/ArrayList"), (0, u "elementData"), (0, u "[Ljava/lang/Object;"), (2, u "EMPTY_ELEMENTDATA"), (21, .fieldref 10 40), (0, .nameAndType 41 14), (0, u "DEFAULTCAPACITY_EMPTY_ELEMENTDATA"), (5, u "()[Ljava/lang/Object;"), (0, .fieldref 10 49), (0, .nameAndType 50 51), (0, u "size"), (0, u "I"), (11, .fieldref 10 64), (0, .nameAndType 65 51), (0, u "modCount"), (3, .methodref 10 70), (0, .nameAndType 71 72), (0, u "grow"), (0, u "(I)[Ljava/lang/Object;"), (6, .methodref 80 81), (0, .class_ 82), (0, .nameAndType 83 84), (0, u "java/lang/Math"), (0, u "max"), (0, u "(II)I"), (11, u "(Ljava/lang/Object;)Z"), (32, .methodref 10 130), (0, .nameAndType 71 47), (0, .methodref 10 132), (0, .nameAndType 133 134), (0, u "add"), (0, u "(Ljava/lang/Object;[Ljava/lang/Object;I)V"), (13, .class_ 149), (0, u "java/util/List"), (112, .class_ 263), (0, u "java/util/ArrayList$ListItr"), (3, .class_ 268), (0, u "java/util/ArrayList$Itr"), (7, .class_ 277), (0, u "java/util/ArrayList$SubList"), (12, .class_ 291), (0, u "java/util/ArrayList$ArrayListSpliterator"), (37, .class_ 330), (0, u "java/util/RandomAccess"), (0, .class_ 332), (0, u "java/lang/Cloneable"), (0, .class_ 334), (0, u "java/io/Serializable"), (0, u "serialVersionUID"), (0, u "J"), (3, u "DEFAULT_CAPACITY"), (159, .class_ 501), (0, u "java/util/ArrayList$SubList$2"), (0, .class_ 503), (0, u "java/util/ArrayList$SubList$1")] 5

def k16c0 : Code := { maxStack := 2, maxLocals := 1, code := jdk_38_method_2_code, exceptionTable := #[], attributes := #[] }
def k16m0 : Method := { name := "<init>", desc := "()V", sig := { parameters := [], returnType := none }, accessFlags := 1, code := some k16c0 }
def k16c1 : Code := { maxStack := 4, maxLocals := 4, code := jdk_38_method_6_code, exceptionTable := #[], attributes := #[] }
def k16m1 : Method := { name := "grow", desc := "(I)[Ljava/lang/Object;", sig := { parameters := [.int], returnType := some (.array (.object "java/lang/Object")) }, accessFlags := 2, code := some k16c1 }
def k16c2 : Code := { maxStack := 3, maxLocals := 1, code := jdk_38_method_7_code, exceptionTable := #[], attributes := #[] }
def k16m2 : Method := { name := "grow", desc := "()[Ljava/lang/Object;", sig := { parameters := [], returnType := some (.array (.object "java/lang/Object")) }, accessFlags := 2, code := some k16c2 }
def k16c3 : Code := { maxStack := 3, maxLocals := 4, code := jdk_38_method_24_code, exceptionTable := #[], attributes := #[] }
def k16m3 : Method := { name := "add", desc := "(Ljava/lang/Object;[Ljava/lang/Object;I)V", sig := { parameters := [(.object "java/lang/Object"), (.array (.object "java/lang/Object")), .int], returnType := none }, accessFlags := 2, code := some k16c3 }
def k16c4 : Code := { maxStack := 4, maxLocals := 2, code := jdk_38_method_25_code, exceptionTable := #[], attributes := #[] }
def k16m4 : Method := { name := "add", desc := "(Ljava/lang/Object;)Z", sig := { parameters := [(.object "java/lang/Object")], returnType := some .boolean }, accessFlags := 1, code := some k16c4 }
/-- java/util/ArrayList -/
def k16 : Class := { plain "java/util/ArrayList" (some 13) with
  accessFlags := 33
  interfaces := #[12, 14, 15, 2]
  cf := some (fileOf pool16 10 #[.nestMembers #[290, 276, 500, 502, 262, 267]] #[{ accessFlags := 1, nameIndex := 5, descriptorIndex := 6, attributes := #[] }, { accessFlags := 2, nameIndex := 71, descriptorIndex := 72, attributes := #[] }, { accessFlags := 2, nameIndex := 71, descriptorIndex := 47, attributes := #[] }, { accessFlags := 2, nameIndex := 133, descriptorIndex := 134, attributes := #[] }, { accessFlags := 1, nameIndex := 133, descriptorIndex := 96, attributes := #[] }] 33 2 #[148, 329, 331, 333] #[{ accessFlags := 26, nameIndex := 335, descriptorIndex := 336, attributes := #[] }, { accessFlags := 26, nameIndex := 340, descriptorIndex := 51, attributes := #[] }, { accessFlags := 26, nameIndex := 17, descriptorIndex := 14, attributes := #[] }, { accessFlags := 26, nameIndex := 41, descriptorIndex := 14, attributes := #[] }, { accessFlags := 128, nameIndex := 13, descriptorIndex := 14, attributes := #[] }, { accessFlags := 2, nameIndex := 50, descriptorIndex := 51, attributes := #[] }])
  fields := #[{ name := "serialVersionUID", type := .long, accessFlags := 26, slot := 0, constantValue := 0 }, { name := "DEFAULT_CAPACITY", type := .int, accessFlags := 26, slot := 1, constantValue := 0 }, { name := "EMPTY_ELEMENTDATA", type := (.array (.object "java/lang/Object")), accessFlags := 26, slot := 2, constantValue := 0 }, { name := "DEFAULTCAPACITY_EMPTY_ELEMENTDATA", type := (.array (.object "java/lang/Object")), accessFlags := 26, slot := 3, constantValue := 0 }, { name := "elementData", type := (.array (.object "java/lang/Object")), accessFlags := 128, slot := 1, constantValue := 0 }, { name := "size", type := .int, accessFlags := 2, slot := 2, constantValue := 0 }]
  methods := #[k16m0, k16m1, k16m2, k16m3, k16m4]
  instanceTypes := #[.int, (.array (.object "java/lang/Object")), .int]
  staticTypes := #[.long, .int, (.array (.object "java/lang/Object")), (.array (.object "java/lang/Object"))]
  resolved := Array.replicate 509 none
  statics := some 1 }

def pool17 : Array CpInfo := pool [(1, .class_ 2), (0, u "java/lang/Math"), (1, .class_ 6), (1, u "java/lang/Object"), (0, u "<init>"), (0, u "()V"), (89, .class_ 100), (1, u "java/lang/Math$RandomNumberGeneratorHolder"), (71, u "negativeZeroFloatBits"), (0, u "J"), (2, u "negativeZeroDoubleBits"), (21, u "max"), (46, u "$assertionsDisabled"), (0, u "Z"), (88, u "(II)I"), (2, u "twoToTheDoubleScaleDown"), (0, u "D"), (4, u "twoToTheDoubleScaleUp"), (9, u "E"), (3, u "PI"), (2, u "TAU"), (2, u "DEGREES_TO_RADIANS"), (0, u "RADIANS_TO_DEGREES")] 94

def k17m0 : Method := { name := "<init>", desc := "()V", sig := { parameters := [], returnType := none }, accessFlags := 2, code := none }
def k17c1 : Code := { maxStack := 2, maxLocals := 2, code := jdk_29_method_65_code, exceptionTable := #[], attributes := #[] }
def k17m1 : Method := { name := "max", desc := "(II)I", sig := { parameters := [.int, .int], returnType := some .int }, accessFlags := 9, code := some k17c1 }
/-- java/lang/Math -/
def k17 : Class := { plain "java/lang/Math" (some 0) with
  accessFlags := 49
  interfaces := #[]
  cf := some (fileOf pool17 1 #[.nestMembers #[98]] #[{ accessFlags := 2, nameIndex := 7, descriptorIndex := 8, attributes := #[] }, { accessFlags := 9, nameIndex := 198, descriptorIndex := 335, attributes := #[] }] 49 4 #[] #[{ accessFlags := 25, nameIndex := 354, descriptorIndex := 339, attributes := #[] }, { accessFlags := 25, nameIndex := 358, descriptorIndex := 339, attributes := #[] }, { accessFlags := 25, nameIndex := 361, descriptorIndex := 339, attributes := #[] }, { accessFlags := 26, nameIndex := 364, descriptorIndex := 339, attributes := #[] }, { accessFlags := 26, nameIndex := 365, descriptorIndex := 339, attributes := #[] }, { accessFlags := 26, nameIndex := 172, descriptorIndex := 173, attributes := #[] }, { accessFlags := 26, nameIndex := 176, descriptorIndex := 173, attributes := #[] }, { accessFlags := 8, nameIndex := 344, descriptorIndex := 339, attributes := #[] }, { accessFlags := 8, nameIndex := 338, descriptorIndex := 339, attributes := #[] }, { accessFlags := 4120, nameIndex := 245, descriptorIndex := 246, attributes := #[] }])
  fields := #[{ name := "E", type := .double, accessFlags := 25, slot := 0, constantValue := 0 }, { name := "PI", type := .double, accessFlags := 25, slot := 1, constantValue := 0 }, { name := "TAU", type := .double, accessFlags := 25, slot := 2, constantValue := 0 }, { name := "DEGREES_TO_RADIANS", type := .double, accessFlags := 26, slot := 3, constantValue := 0 }, { name := "RADIANS_TO_DEGREES", type := .double, accessFlags := 26, slot := 4, constantValue := 0 }, { name := "negativeZeroFloatBits", type := .long, accessFlags := 26, slot := 5, constantValue := 0 }, { name := "negativeZeroDoubleBits", type := .long, accessFlags := 26, slot := 6, constantValue := 0 }, { name := "twoToTheDoubleScaleUp", type := .double, accessFlags := 8, slot := 7, constantValue := 0 }, { name := "twoToTheDoubleScaleDown", type := .double, accessFlags := 8, slot := 8, constantValue := 0 }, { name := "$assertionsDisabled", type := .boolean, accessFlags := 4120, slot := 9, constantValue := 0 }]
  methods := #[k17m0, k17m1]
  instanceTypes := #[]
  staticTypes := #[.double, .double, .double, .double, .double, .long, .long, .double, .double, .boolean]
  resolved := Array.replicate 460 none
  statics := none }

def pool18 : Array CpInfo := pool [(1, .fieldref 2 3), (0, .class_ 4), (0, .nameAndType 5 6), (0, u "java/util/Optional"), (0, u "EMPTY"), (0, u "Ljava/util/Optional;"), (0, .methodref 8 9), (0, .class_ 10), (0, .nameAndType 11 12), (0, u "java/lang/Object"), (0, u "<init>"), (0, u "()V"), (0, .fieldref 2 14), (0, .nameAndType 15 16), (0, u "value"), (0, u "Ljava/lang/Object;"), (0, .methodref 18 19), (0, .class_ 20), (0, .nameAndType 21 22), (0, u "java/util/Objects"), (0, u "requireNonNull"), (0, u "(Ljava/lang/Object;)Ljava/lang/Object;"), (0, .methodref 2 24), (0, .nameAndType 11 25), (0, u "(Ljava/lang/Object;)V"), (20, u "()Z"), (8, u "empty"), (0, u "()Ljava/util/Optional;"), (8, u "(Ljava/lang/Object;)Ljava/util/Optional;"), (2, u "isPresent"), (4, u "get"), (0, u "()Ljava/lang/Object;"), (7, u "of")] 104

def k18c0 : Code := { maxStack := 1, maxLocals := 1, code := jdk_32_method_1_code, exceptionTable := #[], attributes := #[] }
def k18m0 : Method := { name := "empty", desc := "()Ljava/util/Optional;", sig := { parameters := [], returnType := some (.object "java/util/Optional") }, accessFlags := 9, code := some k18c0 }
def k18c1 : Code := { maxStack := 2, maxLocals := 2, code := jdk_32_method_2_code, exceptionTable := #[], attributes := #[] }
def k18m1 : Method := { name := "<init>", desc := "(Ljava/lang/Object;)V", sig := { parameters := [(.object "java/lang/Object")], returnType := none }, accessFlags := 2, code := some k18c1 }
def k18c2 : Code := { maxStack := 3, maxLocals := 1, code := jdk_32_method_3_code, exceptionTable := #[], attributes := #[] }
def k18m2 : Method := { name := "of", desc := "(Ljava/lang/Object;)Ljava/util/Optional;", sig := { parameters := [(.object "java/lang/Object")], returnType := some (.object "java/util/Optional") }, accessFlags := 9, code := some k18c2 }
def k18c3 : Code := { maxStack := 3, maxLocals := 1, code := jdk_32_method_5_code, exceptionTable := #[], attributes := #[] }
def k18m3 : Method := { name := "get", desc := "()Ljava/lang/Object;", sig := { parameters := [], returnType := some (.object "java/lang/Object") }, accessFlags := 1, code := some k18c3 }
def k18c4 : Code := { maxStack := 1, maxLocals := 1, code := jdk_32_method_6_code, exceptionTable := #[], attributes := #[] }
def k18m4 : Method := { name := "isPresent", desc := "()Z", sig := { parameters := [], returnType := some .boolean }, accessFlags := 1, code := some k18c4 }
/-- java/util/Optional -/
def k18 : Class := { plain "java/util/Optional" (some 0) with
  accessFlags := 49
  interfaces := #[]
  cf := some (fileOf pool18 2 #[] #[{ accessFlags := 9, nameIndex := 55, descriptorIndex := 56, attributes := #[] }, { accessFlags := 2, nameIndex := 11, descriptorIndex := 25, attributes := #[] }, { accessFlags := 9, nameIndex := 82, descriptorIndex := 65, attributes := #[] }, { accessFlags := 1, nameIndex := 73, descriptorIndex := 74, attributes := #[] }, { accessFlags := 1, nameIndex := 68, descriptorIndex := 46, attributes := #[] }] 49 8 #[] #[{ accessFlags := 26, nameIndex := 5, descriptorIndex := 6, attributes := #[] }, { accessFlags := 18, nameIndex := 15, descriptorIndex := 16, attributes := #[] }])
  fields := #[{ name := "EMPTY", type := (.object "java/util/Optional"), accessFlags := 26, slot := 0, constantValue := 0 }, { name := "value", type := (.object "java/lang/Object"), accessFlags := 18, slot := 0, constantValue := 0 }]
  methods := #[k18m0, k18m1, k18m2, k18m3, k18m4]
  instanceTypes := #[(.object "java/lang/Object")]
  staticTypes := #[(.object "java/util/Optional")]
  resolved := Array.replicate 187 none
  statics := some 2 }

def pool19 : Array CpInfo := pool [(2, .class_ 4), (1, u "java/lang/Object"), (0, u "<init>"), (0, u "()V"), (35, .class_ 44), (1, u "java/util/Objects"), (0, u "requireNonNull"), (0, u "(Ljava/lang/Object;)Ljava/lang/Object;")] 137

def k19m0 : Method := { name := "<init>", desc := "()V", sig := { parameters := [], returnType := none }, accessFlags := 2, code := none }
def k19c1 : Code := { maxStack := 2, maxLocals := 1, code := jdk_31_method_10_code, exceptionTable := #[], attributes := #[] }
def k19m1 : Method := { name := "requireNonNull", desc := "(Ljava/lang/Object;)Ljava/lang/Object;", sig := { parameters := [(.object "java/lang/Object")], returnType := some (.object "java/lang/Object") }, accessFlags := 9, code := some k19c1 }
/-- java/util/Objects -/
def k19 : Class := { plain "java/util/Objects" (some 0) with
  accessFlags := 49
  interfaces := #[]
  cf := some (fileOf pool19 42 #[] #[{ accessFlags := 2, nameIndex := 5, descriptorIndex := 6, attributes := #[] }, { accessFlags := 9, nameIndex := 45, descriptorIndex := 46, attributes := #[] }] 49 2 #[] #[])
  fields := #[]
  methods := #[k19m0, k19m1]
  instanceTypes := #[]
  staticTypes := #[]
  resolved := Array.replicate 184 none
  statics := none }

def pool20 : Array CpInfo := pool [(1, .methodref 2 3), (0, .class_ 4), (0, .nameAndType 5 6), (0, u "java/lang/Object"), (0, u "<init>"), (0, u "()V"), (0, .class_ 8), (0, u "java/lang/Record")] 13

def k20c0 : Code := { maxStack := 1, maxLocals := 1, code := jdk_30_method_1_code, exceptionTable := #[], attributes := #[] }
def k20m0 : Method := { name := "<init>", desc := "()V", sig := { parameters := [], returnType := none }, accessFlags := 4, code := some k20c0 }
/-- java/lang/Record -/
def k20 : Class := { plain "java/lang/Record" (some 0) with
  accessFlags := 1057
  interfaces := #[]
  cf := some (fileOf pool20 7 #[] #[{ accessFlags := 4, nameIndex := 5, descriptorIndex := 6, attributes := #[] }] 1057 2 #[] #[])
  fields := #[]
  methods := #[k20m0]
  instanceTypes := #[]
  staticTypes := #[]
  resolved := Array.replicate 22 none
  statics := none }

def pool21 : Array CpInfo := pool [(1, .methodref 2 3), (0, .class_ 4), (0, .nameAndType 5 6), (0, u "java/lang/Record"), (0, u "<init>"), (0, u "()V"), (0, .fieldref 8 9), (0, .class_ 10), (0, .nameAndType 11 12), (0, u "com/example/veilstone/veilstone/fhir/Definitions$Element"), (0, u "path"), (0, u "Ljava/lang/String;"), (0, .fieldref 8 14), (0, .nameAndType 15 16), (0, u "repeating"), (0, u "Z"), (0, .fieldref 8 18), (0, .nameAndType 19 20), (0, u "types"), (0, u "Ljava/util/List;"), (0, .fieldref 8 22), (0, .nameAndType 23 24), (0, u "reused"), (0, u "Ljava/util/Optional;"), (6, .methodref 32 33), (0, .class_ 34), (0, .nameAndType 35 36), (0, u "java/util/Optional"), (0, u "isPresent"), (0, u "()Z"), (0, .methodref 32 38), (0, .nameAndType 39 40), (0, u "get"), (0, u "()Ljava/lang/Object;"), (0, .class_ 42), (0, u "java/lang/String"), (0, .string 44), (0, u "BackboneElement"), (0, .methodref 41 46), (0, .nameAndType 47 48), (0, u "equals"), (0, u "(Ljava/lang/Object;)Z"), (0, .string 50), (0, u "Element"), (14, u "(Ljava/lang/String;ZLjava/util/List;Ljava/util/Optional;)V"), (6, u "elementsOf"), (0, u "(Ljava/lang/String;)Ljava/lang/String;"), (8, .class_ 83), (0, u "com/example/veilstone/veilstone/fhir/Definitions")] 21

def k21c0 : Code := { maxStack := 2, maxLocals := 5, code := prog_17_method_1_code, exceptionTable := #[], attributes := #[] }
def k21m0 : Method := { name := "<init>", desc := "(Ljava/lang/String;ZLjava/util/List;Ljava/util/Optional;)V", sig := { parameters := [(.object "java/lang/String"), .boolean, (.object "java/util/List"), (.object "java/util/Optional")], returnType := none }, accessFlags := 0, code := some k21c0 }
def k21c1 : Code := { maxStack := 2, maxLocals := 2, code := prog_17_method_3_code, exceptionTable := #[], attributes := #[] }
def k21m1 : Method := { name := "elementsOf", desc := "(Ljava/lang/String;)Ljava/lang/String;", sig := { parameters := [(.object "java/lang/String")], returnType := some (.object "java/lang/String") }, accessFlags := 0, code := some k21c1 }
/-- com/example/veilstone/veilstone/fhir/Definitions$Element -/
def k21 : Class := { plain "com/example/veilstone/veilstone/fhir/Definitions$Element" (some 20) with
  accessFlags := 48
  interfaces := #[]
  cf := some (fileOf pool21 8 #[.nestHost 82] #[{ accessFlags := 0, nameIndex := 5, descriptorIndex := 65, attributes := #[] }, { accessFlags := 0, nameIndex := 72, descriptorIndex := 73, attributes := #[] }] 48 2 #[] #[{ accessFlags := 18, nameIndex := 11, descriptorIndex := 12, attributes := #[] }, { accessFlags := 18, nameIndex := 15, descriptorIndex := 16, attributes := #[] }, { accessFlags := 18, nameIndex := 19, descriptorIndex := 20, attributes := #[] }, { accessFlags := 18, nameIndex := 23, descriptorIndex := 24, attributes := #[] }])
  fields := #[{ name := "path", type := (.object "java/lang/String"), accessFlags := 18, slot := 0, constantValue := 0 }, { name := "repeating", type := .boolean, accessFlags := 18, slot := 1, constantValue := 0 }, { name := "types", type := (.object "java/util/List"), accessFlags := 18, slot := 2, constantValue := 0 }, { name := "reused", type := (.object "java/util/Optional"), accessFlags := 18, slot := 3, constantValue := 0 }]
  methods := #[k21m0, k21m1]
  instanceTypes := #[(.object "java/lang/String"), .boolean, (.object "java/util/List"), (.object "java/util/Optional")]
  staticTypes := #[]
  resolved := Array.replicate 105 none
  statics := none }

def pool22 : Array CpInfo := pool [(6, .class_ 8), (1, u "java/lang/Object"), (0, u "<init>"), (0, u "()V"), (1, .class_ 14), (1, u "java/lang/StringUTF16"), (31, u "$assertionsDisabled"), (0, u "Z"), (13, u "HI_BYTE_SHIFT"), (0, u "I"), (2, u "LO_BYTE_SHIFT"), (49, .methodref 12 116), (0, .nameAndType 117 118), (0, u "compress"), (0, u "([CI[BII)I"), (3, u "([CII)[B"), (138, u "coderFromArrayLen"), (0, u "([BI)B"), (106, .class_ 371), (1, u "java/lang/StringUTF16$LinesSpliterator"), (58, u "MAX_LENGTH"), (196, .class_ 628), (0, u "java/lang/StringUTF16$CodePointsSpliterator"), (0, .class_ 630), (0, u "java/lang/StringUTF16$CharsSpliterator")] 4

def k22m0 : Method := { name := "<init>", desc := "()V", sig := { parameters := [], returnType := none }, accessFlags := 0, code := none }
def k22c1 : Code := { maxStack := 2, maxLocals := 2, code := jdk_52_method_15_code, exceptionTable := #[], attributes := #[] }
def k22m1 : Method := { name := "coderFromArrayLen", desc := "([BI)B", sig := { parameters := [(.array .byte), .int], returnType := some .byte }, accessFlags := 8, code := some k22c1 }
def k22c2 : Code := { maxStack := 5, maxLocals := 6, code := jdk_52_method_16_code, exceptionTable := #[], attributes := #[] }
def k22m2 : Method := { name := "compress", desc := "([CII)[B", sig := { parameters := [(.array .char), .int, .int], returnType := some (.array .byte) }, accessFlags := 9, code := some k22c2 }
def k22c3 : Code := { maxStack := 3, maxLocals := 7, code := jdk_52_method_21_code, exceptionTable := #[], attributes := #[] }
def k22m3 : Method := { name := "compress", desc := "([CI[BII)I", sig := { parameters := [(.array .char), .int, (.array .byte), .int, .int], returnType := some .int }, accessFlags := 9, code := some k22c3 }
/-- java/lang/StringUTF16 -/
def k22 : Class := { plain "java/lang/StringUTF16" (some 0) with
  accessFlags := 48
  interfaces := #[]
  cf := some (fileOf pool22 12 #[.nestMembers #[627, 629, 369]] #[{ accessFlags := 0, nameIndex := 9, descriptorIndex := 10, attributes := #[] }, { accessFlags := 8, nameIndex := 261, descriptorIndex := 262, attributes := #[] }, { accessFlags := 9, nameIndex := 117, descriptorIndex := 122, attributes := #[] }, { accessFlags := 9, nameIndex := 117, descriptorIndex := 118, attributes := #[] }] 48 6 #[] #[{ accessFlags := 26, nameIndex := 61, descriptorIndex := 62, attributes := #[] }, { accessFlags := 26, nameIndex := 65, descriptorIndex := 62, attributes := #[] }, { accessFlags := 24, nameIndex := 430, descriptorIndex := 62, attributes := #[] }, { accessFlags := 4120, nameIndex := 46, descriptorIndex := 47, attributes := #[] }])
  fields := #[{ name := "HI_BYTE_SHIFT", type := .int, accessFlags := 26, slot := 0, constantValue := 0 }, { name := "LO_BYTE_SHIFT", type := .int, accessFlags := 26, slot := 1, constantValue := 0 }, { name := "MAX_LENGTH", type := .int, accessFlags := 24, slot := 2, constantValue := 0 }, { name := "$assertionsDisabled", type := .boolean, accessFlags := 4120, slot := 3, constantValue := 0 }]
  methods := #[k22m0, k22m1, k22m2, k22m3]
  instanceTypes := #[]
  staticTypes := #[.int, .int, .int, .boolean]
  resolved := Array.replicate 635 none
  statics := none }

def pool23 : Array CpInfo := pool [(4, .class_ 6), (1, u "java/lang/Object"), (0, u "<init>"), (0, u "()V"), (5, .class_ 16), (1, u "java/lang/StringLatin1"), (104, u "$assertionsDisabled"), (0, u "Z"), (98, .class_ 223), (1, u "java/lang/StringLatin1$LinesSpliterator"), (57, u "equals"), (0, u "([B[B)Z"), (107, .class_ 391), (0, u "java/lang/StringLatin1$CharsSpliterator")] 3

def k23m0 : Method := { name := "<init>", desc := "()V", sig := { parameters := [], returnType := none }, accessFlags := 0, code := none }
def k23c1 : Code := { maxStack := 3, maxLocals := 3, code := jdk_43_method_13_code, exceptionTable := #[], attributes := #[] }
def k23m1 : Method := { name := "equals", desc := "([B[B)Z", sig := { parameters := [(.array .byte), (.array .byte)], returnType := some .boolean }, accessFlags := 9, code := some k23c1 }
/-- java/lang/StringLatin1 -/
def k23 : Class := { plain "java/lang/StringLatin1" (some 0) with
  accessFlags := 48
  interfaces := #[]
  cf := some (fileOf pool23 14 #[.nestMembers #[390, 221]] #[{ accessFlags := 0, nameIndex := 7, descriptorIndex := 8, attributes := #[] }, { accessFlags := 9, nameIndex := 281, descriptorIndex := 282, attributes := #[] }] 48 4 #[] #[{ accessFlags := 4120, nameIndex := 121, descriptorIndex := 122, attributes := #[] }])
  fields := #[{ name := "$assertionsDisabled", type := .boolean, accessFlags := 4120, slot := 0, constantValue := 0 }]
  methods := #[k23m0, k23m1]
  instanceTypes := #[]
  staticTypes := #[.boolean]
  resolved := Array.replicate 395 none
  statics := none }

def pool24 : Array CpInfo := pool [(2, .class_ 4), (1, u "java/lang/Object"), (0, u "<init>"), (0, u "()V"), (17, .class_ 26), (1, u "jdk/internal/util/Preconditions"), (28, .class_ 56), (0, u "jdk/internal/util/Preconditions$4"), (57, .class_ 115), (0, u "jdk/internal/util/Preconditions$1"), (7, u "SIOOBE_FORMATTER"), (0, u "Ljava/util/function/BiFunction;"), (0, .class_ 126), (0, u "jdk/internal/util/Preconditions$2"), (3, u "AIOOBE_FORMATTER"), (0, .class_ 132), (0, u "jdk/internal/util/Preconditions$3"), (3, u "IOOBE_FORMATTER")] 57

def k24m0 : Method := { name := "<init>", desc := "()V", sig := { parameters := [], returnType := none }, accessFlags := 1, code := none }
/-- jdk/internal/util/Preconditions -/
def k24 : Class := { plain "jdk/internal/util/Preconditions" (some 0) with
  accessFlags := 33
  interfaces := #[]
  cf := some (fileOf pool24 24 #[.nestMembers #[55, 131, 125, 114]] #[{ accessFlags := 1, nameIndex := 5, descriptorIndex := 6, attributes := #[] }] 33 2 #[] #[{ accessFlags := 25, nameIndex := 123, descriptorIndex := 124, attributes := #[] }, { accessFlags := 25, nameIndex := 130, descriptorIndex := 124, attributes := #[] }, { accessFlags := 25, nameIndex := 136, descriptorIndex := 124, attributes := #[] }])
  fields := #[{ name := "SIOOBE_FORMATTER", type := (.object "java/util/function/BiFunction"), accessFlags := 25, slot := 0, constantValue := 0 }, { name := "AIOOBE_FORMATTER", type := (.object "java/util/function/BiFunction"), accessFlags := 25, slot := 1, constantValue := 0 }, { name := "IOOBE_FORMATTER", type := (.object "java/util/function/BiFunction"), accessFlags := 25, slot := 2, constantValue := 0 }]
  methods := #[k24m0]
  instanceTypes := #[]
  staticTypes := #[(.object "java/util/function/BiFunction"), (.object "java/util/function/BiFunction"), (.object "java/util/function/BiFunction")]
  resolved := Array.replicate 194 none
  statics := some 3 }

def pool25 : Array CpInfo := pool [(9, u "<init>"), (6, .class_ 18), (1, u "java/lang/Object"), (0, u "()V"), (1, .class_ 23), (1, u "jdk/internal/util/ArraysSupport"), (0, u "LOG2_ARRAY_LONG_INDEX_SCALE"), (0, u "I"), (2, u "U"), (0, u "Ljdk/internal/misc/Unsafe;"), (8, u "BIG_ENDIAN"), (0, u "Z"), (8, u "LOG2_BYTE_BIT_SIZE"), (4, u "LOG2_ARRAY_INT_INDEX_SCALE"), (54, u "JLA"), (0, u "Ljdk/internal/access/JavaLangAccess;"), (11, u "LOG2_ARRAY_BOOLEAN_INDEX_SCALE"), (9, u "LOG2_ARRAY_BYTE_INDEX_SCALE"), (5, u "LOG2_ARRAY_CHAR_INDEX_SCALE"), (5, u "LOG2_ARRAY_SHORT_INDEX_SCALE"), (18, u "LOG2_ARRAY_FLOAT_INDEX_SCALE"), (24, u "LOG2_ARRAY_DOUBLE_INDEX_SCALE"), (89, u "T_BOOLEAN"), (2, u "T_CHAR"), (1, u "T_FLOAT"), (1, u "T_DOUBLE"), (1, u "T_BYTE"), (1, u "T_SHORT"), (1, u "T_INT"), (1, u "T_LONG"), (1, u "SOFT_MAX_ARRAY_LENGTH")] 83

def k25m0 : Method := { name := "<init>", desc := "()V", sig := { parameters := [], returnType := none }, accessFlags := 2, code := none }
/-- jdk/internal/util/ArraysSupport -/
def k25 : Class := { plain "jdk/internal/util/ArraysSupport" (some 0) with
  accessFlags := 33
  interfaces := #[]
  cf := some (fileOf pool25 21 #[] #[{ accessFlags := 2, nameIndex := 9, descriptorIndex := 19, attributes := #[] }] 33 16 #[] #[{ accessFlags := 24, nameIndex := 28, descriptorIndex := 29, attributes := #[] }, { accessFlags := 26, nameIndex := 38, descriptorIndex := 39, attributes := #[] }, { accessFlags := 25, nameIndex := 121, descriptorIndex := 25, attributes := #[] }, { accessFlags := 25, nameIndex := 131, descriptorIndex := 25, attributes := #[] }, { accessFlags := 25, nameIndex := 137, descriptorIndex := 25, attributes := #[] }, { accessFlags := 25, nameIndex := 143, descriptorIndex := 25, attributes := #[] }, { accessFlags := 25, nameIndex := 53, descriptorIndex := 25, attributes := #[] }, { accessFlags := 25, nameIndex := 24, descriptorIndex := 25, attributes := #[] }, { accessFlags := 25, nameIndex := 162, descriptorIndex := 25, attributes := #[] }, { accessFlags := 25, nameIndex := 187, descriptorIndex := 25, attributes := #[] }, { accessFlags := 26, nameIndex := 48, descriptorIndex := 25, attributes := #[] }, { accessFlags := 25, nameIndex := 277, descriptorIndex := 25, attributes := #[] }, { accessFlags := 25, nameIndex := 280, descriptorIndex := 25, attributes := #[] }, { accessFlags := 25, nameIndex := 282, descriptorIndex := 25, attributes := #[] }, { accessFlags := 25, nameIndex := 284, descriptorIndex := 25, attributes := #[] }, { accessFlags := 25, nameIndex := 286, descriptorIndex := 25, attributes := #[] }, { accessFlags := 25, nameIndex := 288, descriptorIndex := 25, attributes := #[] }, { accessFlags := 25, nameIndex := 290, descriptorIndex := 25, attributes := #[] }, { accessFlags := 25, nameIndex := 292, descriptorIndex := 25, attributes := #[] }, { accessFlags := 26, nameIndex := 108, descriptorIndex := 109, attributes := #[] }, { accessFlags := 25, nameIndex := 294, descriptorIndex := 25, attributes := #[] }])
  fields := #[{ name := "U", type := (.object "jdk/internal/misc/Unsafe"), accessFlags := 24, slot := 0, constantValue := 0 }, { name := "BIG_ENDIAN", type := .boolean, accessFlags := 26, slot := 1, constantValue := 0 }, { name := "LOG2_ARRAY_BOOLEAN_INDEX_SCALE", type := .int, accessFlags := 25, slot := 2, constantValue := 0 }, { name := "LOG2_ARRAY_BYTE_INDEX_SCALE", type := .int, accessFlags := 25, slot := 3, constantValue := 0 }, { name := "LOG2_ARRAY_CHAR_INDEX_SCALE", type := .int, accessFlags := 25, slot := 4, constantValue := 0 }, { name := "LOG2_ARRAY_SHORT_INDEX_SCALE", type := .int, accessFlags := 25, slot := 5, constantValue := 0 }, { name := "LOG2_ARRAY_INT_INDEX_SCALE", type := .int, accessFlags := 25, slot := 6, constantValue := 0 }, { name := "LOG2_ARRAY_LONG_INDEX_SCALE", type := .int, accessFlags := 25, slot := 7, constantValue := 0 }, { name := "LOG2_ARRAY_FLOAT_INDEX_SCALE", type := .int, accessFlags := 25, slot := 8, constantValue := 0 }, { name := "LOG2_ARRAY_DOUBLE_INDEX_SCALE", type := .int, accessFlags := 25, slot := 9, constantValue := 0 }, { name := "LOG2_BYTE_BIT_SIZE", type := .int, accessFlags := 26, slot := 10, constantValue := 0 }, { name := "T_BOOLEAN", type := .int, accessFlags := 25, slot := 11, constantValue := 0 }, { name := "T_CHAR", type := .int, accessFlags := 25, slot := 12, constantValue := 0 }, { name := "T_FLOAT", type := .int, accessFlags := 25, slot := 13, constantValue := 0 }, { name := "T_DOUBLE", type := .int, accessFlags := 25, slot := 14, constantValue := 0 }, { name := "T_BYTE", type := .int, accessFlags := 25, slot := 15, constantValue := 0 }, { name := "T_SHORT", type := .int, accessFlags := 25, slot := 16, constantValue := 0 }, { name := "T_INT", type := .int, accessFlags := 25, slot := 17, constantValue := 0 }, { name := "T_LONG", type := .int, accessFlags := 25, slot := 18, constantValue := 0 }, { name := "JLA", type := (.object "jdk/internal/access/JavaLangAccess"), accessFlags := 26, slot := 19, constantValue := 0 }, { name := "SOFT_MAX_ARRAY_LENGTH", type := .int, accessFlags := 25, slot := 20, constantValue := 0 }]
  methods := #[k25m0]
  instanceTypes := #[]
  staticTypes := #[(.object "jdk/internal/misc/Unsafe"), .boolean, .int, .int, .int, .int, .int, .int, .int, .int, .int, .int, .int, .int, .int, .int, .int, .int, .int, (.object "jdk/internal/access/JavaLangAccess"), .int]
  resolved := Array.replicate 378 none
  statics := none }

/-- the primitive byte -/
def k26 : Class := { plain "byte" none with kind := .primitive 'B', accessFlags := 0x411 }
/-- [B -/
def k27 : Class := { plain "[B" (some 0) with kind := .array 26 .byte, interfaces := #[15, 2], accessFlags := 1041 }

/-- the primitive char -/
def k28 : Class := { plain "char" none with kind := .primitive 'C', accessFlags := 0x411 }
/-- [C -/
def k29 : Class := { plain "[C" (some 0) with kind := .array 28 .char, interfaces := #[15, 2], accessFlags := 1041 }

/-- the primitive int -/
def k30 : Class := { plain "int" none with kind := .primitive 'I', accessFlags := 0x411 }
/-- [I -/
def k31 : Class := { plain "[I" (some 0) with kind := .array 30 .int, interfaces := #[15, 2], accessFlags := 1041 }

/-- [Ljava/lang/Object; -/
def k32 : Class := { plain "[Ljava/lang/Object;" (some 0) with kind := .array 0 (.object "java/lang/Object"), interfaces := #[15, 2], accessFlags := 1041 }

def heap : Heap := #[{ cls := 7, slots := #[.long 0, .int 1, .null, .int 0, .null, .int 0, .int 0], vm := .statics 7 },
  { cls := 16, slots := #[.long 0, .int 0, .ref 4, .ref 5], vm := .statics 16 },
  { cls := 18, slots := #[.ref 6], vm := .statics 18 },
  { cls := 24, slots := #[.null, .null, .null], vm := .statics 24 },
  { cls := 32, slots := #[], vm := .none },
  { cls := 32, slots := #[], vm := .none },
  { cls := 18, slots := #[.null], vm := .none }]
def classes : Array Class := #[k0, k1, k2, k3, k4, k5, k6, k7, k8, k9, k10, k11, k12, k13, k14, k15, k16, k17, k18, k19, k20, k21, k22, k23, k24, k25, k26, k27, k28, k29, k30, k31, k32]
def interned : List (Array UInt16 × Addr) := []
def slotsUsed : Nat := 16
def theMethod : MethodId := ⟨1, 3⟩
def args0 : Array Value := #[.int 5, .int 6, .int 7, .int 8]
def aboutOver (below : List Frame) : State where
  vm := { classes := classes, interned := interned.toArray }
  heap := heap
  slotsUsed := slotsUsed
  threads := #[{ frames := .invoking theMethod args0 :: below }]
def below0 : List Frame := [.native { method := ⟨0, 0⟩, args := #[] }]
def about1 : State := aboutOver below0
def p0 : Program := .bare "" "" ""
def e0 : Env := launch0.env 0 0 0
theorem w_frames : about1.frames = Frame.invoking theMethod args0 :: below0 := rfl
set_option maxRecDepth 65536 in
theorem w_args : argsFit about1.vm theMethod args0 = true := by decide +kernel
set_option maxRecDepth 65536 in
theorem w_heap : heapFits about1 = true := by decide +kernel
set_option maxRecDepth 65536 in
theorem w_runnable : about1.curStatus? = some .runnable := by decide +kernel
set_option maxRecDepth 65536 in
theorem w_alone : about1.alone = true := by decide +kernel
set_option maxRecDepth 65536 in
theorem w_named : about1.methodNamed? x = some theMethod := by decide +kernel
set_option maxRecDepth 65536 in
theorem w_hears : about1.hears theMethod below0 = true := by decide +kernel
set_option maxRecDepth 65536 in
theorem w_ripe : about1.ripe theMethod args0 below0 = true := by decide +kernel
theorem w_running : about1.status = .running := rfl
set_option maxRecDepth 65536 in
theorem w_room : about1.hasRoom e0.platform room_1 = true :=
  launch0.hasRoom_least _ room_1 (by decide +kernel) (by decide +kernel) (by decide +kernel) (by decide +kernel) (by decide +kernel) (by decide +kernel)
theorem allAtoms_all (ts : List Jvm.Cond) (a : Array Jvm.Value) (st : Jvm.State) : (allAtoms ts).before a st = ts.all (fun c => c.before a st) := by
  induction ts with
  | nil => rfl
  | cons c t ih =>
    show (Jvm.Cond.and c (allAtoms t)).before a st = _
    rw [Jvm.Cond.before_and, ih, List.all_cons]
def words1 : List Jvm.Cond := Jvm.Cond.code x code maxLocals ret :: tables_1
/-- a 'code' word, met by the world's own term for the bytes: nothing is compared byte by byte -/
theorem code_word {y : MethodName} {bytes : ByteArray} {mx : Nat} {rt : Option FieldType} {a : Array Value} {s : State} {m : MethodId} {meth : Method} {c : Code} (h1 : s.methodNamed? y = some m) (h2 : s.vm.method? m = some meth) (h3 : meth.code = some c) (h4 : c.code = bytes)
    (h5 : (c.maxLocals == mx && c.exceptionTable.isEmpty && decide (c.maxStack ≤ mostOperands) && decide (meth.sig.returnType = rt) && !meth.locks && decide (parseMethodDescriptor y.desc = some meth.sig)) = true) : (Jvm.Cond.code y bytes mx rt).before a s = true := by
  simp only [Bool.and_eq_true, beq_iff_eq, Bool.not_eq_true', decide_eq_true_eq] at h5
  obtain ⟨⟨⟨⟨⟨g1, g2⟩, g3⟩, g4⟩, g5⟩, g6⟩ := h5
  simp [Cond.before, Cond.holds, Cond.value, h1, h2, h3, h4, g1, g2, g3, g4, g5, g6]
def isCode : Jvm.Cond → Bool
  | .code _ _ _ _ => true
  | _ => false
theorem all_split {L : List Jvm.Cond} {P : Jvm.Cond → Bool} (h1 : L.all (fun c => isCode c || P c) = true) (h2 : ∀ c ∈ L.filter isCode, P c = true) : L.all P = true := by
  refine List.all_eq_true.mpr fun c hc => ?_
  have h := List.all_eq_true.mp h1 c hc
  rcases Bool.eq_false_or_eq_true (isCode c) with hi | hi
  · exact h2 c (List.mem_filter.mpr ⟨hc, hi⟩)
  · simpa [hi] using h
set_option maxRecDepth 65536 in
theorem w_c0 : (Jvm.Cond.code x code maxLocals ret).before args0 about1 = true := code_word (m := ⟨1, 3⟩) (meth := k1m3) (c := k1c3) (by decide +kernel) rfl rfl rfl (by decide +kernel)
set_option maxRecDepth 65536 in
theorem w_c1 : (Jvm.Cond.code ({ cls := "com/example/veilstone/veilstone/fhir/ElementElementsOfPinLaw", name := "str", desc := "(II)Ljava/lang/String;" } : Jvm.MethodName) method_2_code (6 : Nat) (Option.some (Jvm.ClassFile.FieldType.object "java/lang/String"))).before args0 about1 = true := code_word (m := ⟨1, 1⟩) (meth := k1m1) (c := k1c1) (by decide +kernel) rfl rfl rfl (by decide +kernel)
set_option maxRecDepth 65536 in
theorem w_c2 : (Jvm.Cond.code ({ cls := "java/lang/String", name := "<init>", desc := "([C)V" } : Jvm.MethodName) jdk_42_method_3_code (2 : Nat) (Option.none : Option Jvm.ClassFile.FieldType)).before args0 about1 = true := code_word (m := ⟨7, 1⟩) (meth := k7m1) (c := k7c1) (by decide +kernel) rfl rfl rfl (by decide +kernel)
set_option maxRecDepth 65536 in
theorem w_c3 : (Jvm.Cond.code ({ cls := "java/lang/String", name := "<init>", desc := "([CIILjava/lang/Void;)V" } : Jvm.MethodName) jdk_42_method_149_code (6 : Nat) (Option.none : Option Jvm.ClassFile.FieldType)).before args0 about1 = true := code_word (m := ⟨7, 3⟩) (meth := k7m3) (c := k7c3) (by decide +kernel) rfl rfl rfl (by decide +kernel)
set_option maxRecDepth 65536 in
theorem w_c4 : (Jvm.Cond.code ({ cls := "java/lang/Object", name := "<init>", desc := "()V" } : Jvm.MethodName) object_method_1_code (1 : Nat) (Option.none : Option Jvm.ClassFile.FieldType)).before args0 about1 = true := code_word (m := ⟨0, 0⟩) (meth := k0m0) (c := k0c0) (by decide +kernel) rfl rfl rfl (by decide +kernel)
set_option maxRecDepth 65536 in
theorem w_c5 : (Jvm.Cond.code ({ cls := "com/example/veilstone/veilstone/fhir/ElementElementsOfPinLaw", name := "typeOf", desc := "(ILjava/lang/String;)Ljava/lang/String;" } : Jvm.MethodName) method_3_code (2 : Nat) (Option.some (Jvm.ClassFile.FieldType.object "java/lang/String"))).before args0 about1 = true := code_word (m := ⟨1, 2⟩) (meth := k1m2) (c := k1c2) (by decide +kernel) rfl rfl rfl (by decide +kernel)
set_option maxRecDepth 65536 in
theorem w_c6 : (Jvm.Cond.code ({ cls := "java/util/ArrayList", name := "<init>", desc := "()V" } : Jvm.MethodName) jdk_38_method_2_code (1 : Nat) (Option.none : Option Jvm.ClassFile.FieldType)).before args0 about1 = true := code_word (m := ⟨16, 0⟩) (meth := k16m0) (c := k16c0) (by decide +kernel) rfl rfl rfl (by decide +kernel)
set_option maxRecDepth 65536 in
theorem w_c7 : (Jvm.Cond.code ({ cls := "java/util/AbstractList", name := "<init>", desc := "()V" } : Jvm.MethodName) jdk_39_method_1_code (1 : Nat) (Option.none : Option Jvm.ClassFile.FieldType)).before args0 about1 = true := code_word (m := ⟨13, 0⟩) (meth := k13m0) (c := k13c0) (by decide +kernel) rfl rfl rfl (by decide +kernel)
set_option maxRecDepth 65536 in
theorem w_c8 : (Jvm.Cond.code ({ cls := "java/util/AbstractCollection", name := "<init>", desc := "()V" } : Jvm.MethodName) jdk_22_method_1_code (1 : Nat) (Option.none : Option Jvm.ClassFile.FieldType)).before args0 about1 = true := code_word (m := ⟨10, 0⟩) (meth := k10m0) (c := k10c0) (by decide +kernel) rfl rfl rfl (by decide +kernel)
set_option maxRecDepth 65536 in
theorem w_c9 : (Jvm.Cond.code ({ cls := "java/util/ArrayList", name := "add", desc := "(Ljava/lang/Object;)Z" } : Jvm.MethodName) jdk_38_method_25_code (2 : Nat) (Option.some Jvm.ClassFile.FieldType.boolean)).before args0 about1 = true := code_word (m := ⟨16, 4⟩) (meth := k16m4) (c := k16c4) (by decide +kernel) rfl rfl rfl (by decide +kernel)
set_option maxRecDepth 65536 in
theorem w_c10 : (Jvm.Cond.code ({ cls := "java/util/ArrayList", name := "add", desc := "(Ljava/lang/Object;[Ljava/lang/Object;I)V" } : Jvm.MethodName) jdk_38_method_24_code (4 : Nat) (Option.none : Option Jvm.ClassFile.FieldType)).before args0 about1 = true := code_word (m := ⟨16, 3⟩) (meth := k16m3) (c := k16c3) (by decide +kernel) rfl rfl rfl (by decide +kernel)
set_option maxRecDepth 65536 in
theorem w_c11 : (Jvm.Cond.code ({ cls := "java/util/ArrayList", name := "grow", desc := "()[Ljava/lang/Object;" } : Jvm.MethodName) jdk_38_method_7_code (1 : Nat) (Option.some (Jvm.ClassFile.FieldType.array (Jvm.ClassFile.FieldType.object "java/lang/Object")))).before args0 about1 = true := code_word (m := ⟨16, 2⟩) (meth := k16m2) (c := k16c2) (by decide +kernel) rfl rfl rfl (by decide +kernel)
set_option maxRecDepth 65536 in
theorem w_c12 : (Jvm.Cond.code ({ cls := "java/util/ArrayList", name := "grow", desc := "(I)[Ljava/lang/Object;" } : Jvm.MethodName) jdk_38_method_6_code (4 : Nat) (Option.some (Jvm.ClassFile.FieldType.array (Jvm.ClassFile.FieldType.object "java/lang/Object")))).before args0 about1 = true := code_word (m := ⟨16, 1⟩) (meth := k16m1) (c := k16c1) (by decide +kernel) rfl rfl rfl (by decide +kernel)
set_option maxRecDepth 65536 in
theorem w_c13 : (Jvm.Cond.code ({ cls := "java/lang/Math", name := "max", desc := "(II)I" } : Jvm.MethodName) jdk_29_method_65_code (2 : Nat) (Option.some Jvm.ClassFile.FieldType.int)).before args0 about1 = true := code_word (m := ⟨17, 1⟩) (meth := k17m1) (c := k17c1) (by decide +kernel) rfl rfl rfl (by decide +kernel)
set_option maxRecDepth 65536 in
theorem w_c14 : (Jvm.Cond.code ({ cls := "java/util/Optional", name := "of", desc := "(Ljava/lang/Object;)Ljava/util/Optional;" } : Jvm.MethodName) jdk_32_method_3_code (1 : Nat) (Option.some (Jvm.ClassFile.FieldType.object "java/util/Optional"))).before args0 about1 = true := code_word (m := ⟨18, 2⟩) (meth := k18m2) (c := k18c2) (by decide +kernel) rfl rfl rfl (by decide +kernel)
set_option maxRecDepth 65536 in
theorem w_c15 : (Jvm.Cond.code ({ cls := "java/util/Objects", name := "requireNonNull", desc := "(Ljava/lang/Object;)Ljava/lang/Object;" } : Jvm.MethodName) jdk_31_method_10_code (1 : Nat) (Option.some (Jvm.ClassFile.FieldType.object "java/lang/Object"))).before args0 about1 = true := code_word (m := ⟨19, 1⟩) (meth := k19m1) (c := k19c1) (by decide +kernel) rfl rfl rfl (by decide +kernel)
set_option maxRecDepth 65536 in
theorem w_c16 : (Jvm.Cond.code ({ cls := "java/util/Optional", name := "<init>", desc := "(Ljava/lang/Object;)V" } : Jvm.MethodName) jdk_32_method_2_code (2 : Nat) (Option.none : Option Jvm.ClassFile.FieldType)).before args0 about1 = true := code_word (m := ⟨18, 1⟩) (meth := k18m1) (c := k18c1) (by decide +kernel) rfl rfl rfl (by decide +kernel)
set_option maxRecDepth 65536 in
theorem w_c17 : (Jvm.Cond.code ({ cls := "com/example/veilstone/veilstone/fhir/Definitions$Element", name := "<init>", desc := "(Ljava/lang/String;ZLjava/util/List;Ljava/util/Optional;)V" } : Jvm.MethodName) prog_17_method_1_code (5 : Nat) (Option.none : Option Jvm.ClassFile.FieldType)).before args0 about1 = true := code_word (m := ⟨21, 0⟩) (meth := k21m0) (c := k21c0) (by decide +kernel) rfl rfl rfl (by decide +kernel)
set_option maxRecDepth 65536 in
theorem w_c18 : (Jvm.Cond.code ({ cls := "java/lang/Record", name := "<init>", desc := "()V" } : Jvm.MethodName) jdk_30_method_1_code (1 : Nat) (Option.none : Option Jvm.ClassFile.FieldType)).before args0 about1 = true := code_word (m := ⟨20, 0⟩) (meth := k20m0) (c := k20c0) (by decide +kernel) rfl rfl rfl (by decide +kernel)
set_option maxRecDepth 65536 in
theorem w_c19 : (Jvm.Cond.code ({ cls := "com/example/veilstone/veilstone/fhir/Definitions$Element", name := "elementsOf", desc := "(Ljava/lang/String;)Ljava/lang/String;" } : Jvm.MethodName) prog_17_method_3_code (2 : Nat) (Option.some (Jvm.ClassFile.FieldType.object "java/lang/String"))).before args0 about1 = true := code_word (m := ⟨21, 1⟩) (meth := k21m1) (c := k21c1) (by decide +kernel) rfl rfl rfl (by decide +kernel)
set_option maxRecDepth 65536 in
theorem w_c20 : (Jvm.Cond.code ({ cls := "java/util/Optional", name := "isPresent", desc := "()Z" } : Jvm.MethodName) jdk_32_method_6_code (1 : Nat) (Option.some Jvm.ClassFile.FieldType.boolean)).before args0 about1 = true := code_word (m := ⟨18, 4⟩) (meth := k18m4) (c := k18c4) (by decide +kernel) rfl rfl rfl (by decide +kernel)
set_option maxRecDepth 65536 in
theorem w_c21 : (Jvm.Cond.code ({ cls := "java/util/Optional", name := "get", desc := "()Ljava/lang/Object;" } : Jvm.MethodName) jdk_32_method_5_code (1 : Nat) (Option.some (Jvm.ClassFile.FieldType.object "java/lang/Object"))).before args0 about1 = true := code_word (m := ⟨18, 3⟩) (meth := k18m3) (c := k18c3) (by decide +kernel) rfl rfl rfl (by decide +kernel)
set_option maxRecDepth 65536 in
theorem w_c22 : (Jvm.Cond.code ({ cls := "java/lang/String", name := "equals", desc := "(Ljava/lang/Object;)Z" } : Jvm.MethodName) jdk_42_method_66_code (3 : Nat) (Option.some Jvm.ClassFile.FieldType.boolean)).before args0 about1 = true := code_word (m := ⟨7, 2⟩) (meth := k7m2) (c := k7c2) (by decide +kernel) rfl rfl rfl (by decide +kernel)
set_option maxRecDepth 65536 in
theorem w_c23 : (Jvm.Cond.code ({ cls := "java/util/Optional", name := "empty", desc := "()Ljava/util/Optional;" } : Jvm.MethodName) jdk_32_method_1_code (1 : Nat) (Option.some (Jvm.ClassFile.FieldType.object "java/util/Optional"))).before args0 about1 = true := code_word (m := ⟨18, 0⟩) (meth := k18m0) (c := k18c0) (by decide +kernel) rfl rfl rfl (by decide +kernel)
set_option maxRecDepth 65536 in
theorem w_c24 : (Jvm.Cond.code ({ cls := "java/lang/StringUTF16", name := "compress", desc := "([CII)[B" } : Jvm.MethodName) jdk_52_method_16_code (6 : Nat) (Option.some (Jvm.ClassFile.FieldType.array Jvm.ClassFile.FieldType.byte))).before args0 about1 = true := code_word (m := ⟨22, 2⟩) (meth := k22m2) (c := k22c2) (by decide +kernel) rfl rfl rfl (by decide +kernel)
set_option maxRecDepth 65536 in
theorem w_c25 : (Jvm.Cond.code ({ cls := "java/lang/StringUTF16", name := "compress", desc := "([CI[BII)I" } : Jvm.MethodName) jdk_52_method_21_code (7 : Nat) (Option.some Jvm.ClassFile.FieldType.int)).before args0 about1 = true := code_word (m := ⟨22, 3⟩) (meth := k22m3) (c := k22c3) (by decide +kernel) rfl rfl rfl (by decide +kernel)
set_option maxRecDepth 65536 in
theorem w_c26 : (Jvm.Cond.code ({ cls := "java/lang/StringUTF16", name := "coderFromArrayLen", desc := "([BI)B" } : Jvm.MethodName) jdk_52_method_15_code (2 : Nat) (Option.some Jvm.ClassFile.FieldType.byte)).before args0 about1 = true := code_word (m := ⟨22, 1⟩) (meth := k22m1) (c := k22c1) (by decide +kernel) rfl rfl rfl (by decide +kernel)
set_option maxRecDepth 65536 in
theorem w_c27 : (Jvm.Cond.code ({ cls := "java/lang/StringLatin1", name := "equals", desc := "([B[B)Z" } : Jvm.MethodName) jdk_43_method_13_code (3 : Nat) (Option.some Jvm.ClassFile.FieldType.boolean)).before args0 about1 = true := code_word (m := ⟨23, 1⟩) (meth := k23m1) (c := k23c1) (by decide +kernel) rfl rfl rfl (by decide +kernel)
def codes1 : List Jvm.Cond := [Jvm.Cond.code x code maxLocals ret, Jvm.Cond.code ({ cls := "com/example/veilstone/veilstone/fhir/ElementElementsOfPinLaw", name := "str", desc := "(II)Ljava/lang/String;" } : Jvm.MethodName) method_2_code (6 : Nat) (Option.some (Jvm.ClassFile.FieldType.object "java/lang/String")), Jvm.Cond.code ({ cls := "java/lang/String", name := "<init>", desc := "([C)V" } : Jvm.MethodName) jdk_42_method_3_code (2 : Nat) (Option.none : Option Jvm.ClassFile.FieldType), Jvm.Cond.code ({ cls := "java/lang/String", name := "<init>", desc := "([CIILjava/lang/Void;)V" } : Jvm.MethodName) jdk_42_method_149_code (6 : Nat) (Option.none : Option Jvm.ClassFile.FieldType), Jvm.Cond.code ({ cls := "java/lang/Object", name := "<init>", desc := "()V" } : Jvm.MethodName) object_method_1_code (1 : Nat) (Option.none : Option Jvm.ClassFile.FieldType), Jvm.Cond.code ({ cls := "com/example/veilstone/veilstone/fhir/ElementElementsOfPinLaw", name := "typeOf", desc := "(ILjava/lang/String;)Ljava/lang/String;" } : Jvm.MethodName) method_3_code (2 : Nat) (Option.some (Jvm.ClassFile.FieldType.object "java/lang/String")), Jvm.Cond.code ({ cls := "java/util/ArrayList", name := "<init>", desc := "()V" } : Jvm.MethodName) jdk_38_method_2_code (1 : Nat) (Option.none : Option Jvm.ClassFile.FieldType), Jvm.Cond.code ({ cls := "java/util/AbstractList", name := "<init>", desc := "()V" } : Jvm.MethodName) jdk_39_method_1_code (1 : Nat) (Option.none : Option Jvm.ClassFile.FieldType), Jvm.Cond.code ({ cls := "java/util/AbstractCollection", name := "<init>", desc := "()V" } : Jvm.MethodName) jdk_22_method_1_code (1 : Nat) (Option.none : Option Jvm.ClassFile.FieldType), Jvm.Cond.code ({ cls := "java/util/ArrayList", name := "add", desc := "(Ljava/lang/Object;)Z" } : Jvm.MethodName) jdk_38_method_25_code (2 : Nat) (Option.some Jvm.ClassFile.FieldType.boolean), Jvm.Cond.code ({ cls := "java/util/ArrayList", name := "add", desc := "(Ljava/lang/Object;[Ljava/lang/Object;I)V" } : Jvm.MethodName) jdk_38_method_24_code (4 : Nat) (Option.none : Option Jvm.ClassFile.FieldType), Jvm.Cond.code ({ cls := "java/util/ArrayList", name := "grow", desc := "()[Ljava/lang/Object;" } : Jvm.MethodName) jdk_38_method_7_code (1 : Nat) (Option.some (Jvm.ClassFile.FieldType.array (Jvm.ClassFile.FieldType.object "java/lang/Object"))), Jvm.Cond.code ({ cls := "java/util/ArrayList", name := "grow", desc := "(I)[Ljava/lang/Object;" } : Jvm.MethodName) jdk_38_method_6_code (4 : Nat) (Option.some (Jvm.ClassFile.FieldType.array (Jvm.ClassFile.FieldType.object "java/lang/Object"))), Jvm.Cond.code ({ cls := "java/lang/Math", name := "max", desc := "(II)I" } : Jvm.MethodName) jdk_29_method_65_code (2 : Nat) (Option.some Jvm.ClassFile.FieldType.int), Jvm.Cond.code ({ cls := "java/util/Optional", name := "of", desc := "(Ljava/lang/Object;)Ljava/util/Optional;" } : Jvm.MethodName) jdk_32_method_3_code (1 : Nat) (Option.some (Jvm.ClassFile.FieldType.object "java/util/Optional")), Jvm.Cond.code ({ cls := "java/util/Objects", name := "requireNonNull", desc := "(Ljava/lang/Object;)Ljava/lang/Object;" } : Jvm.MethodName) jdk_31_method_10_code (1 : Nat) (Option.some (Jvm.ClassFile.FieldType.object "java/lang/Object")), Jvm.Cond.code ({ cls := "java/util/Optional", name := "<init>", desc := "(Ljava/lang/Object;)V" } : Jvm.MethodName) jdk_32_method_2_code (2 : Nat) (Option.none : Option Jvm.ClassFile.FieldType), Jvm.Cond.code ({ cls := "com/example/veilstone/veilstone/fhir/Definitions$Element", name := "<init>", desc := "(Ljava/lang/String;ZLjava/util/List;Ljava/util/Optional;)V" } : Jvm.MethodName) prog_17_method_1_code (5 : Nat) (Option.none : Option Jvm.ClassFile.FieldType), Jvm.Cond.code ({ cls := "java/lang/Record", name := "<init>", desc := "()V" } : Jvm.MethodName) jdk_30_method_1_code (1 : Nat) (Option.none : Option Jvm.ClassFile.FieldType), Jvm.Cond.code ({ cls := "com/example/veilstone/veilstone/fhir/Definitions$Element", name := "elementsOf", desc := "(Ljava/lang/String;)Ljava/lang/String;" } : Jvm.MethodName) prog_17_method_3_code (2 : Nat) (Option.some (Jvm.ClassFile.FieldType.object "java/lang/String")), Jvm.Cond.code ({ cls := "java/util/Optional", name := "isPresent", desc := "()Z" } : Jvm.MethodName) jdk_32_method_6_code (1 : Nat) (Option.some Jvm.ClassFile.FieldType.boolean), Jvm.Cond.code ({ cls := "java/util/Optional", name := "get", desc := "()Ljava/lang/Object;" } : Jvm.MethodName) jdk_32_method_5_code (1 : Nat) (Option.some (Jvm.ClassFile.FieldType.object "java/lang/Object")), Jvm.Cond.code ({ cls := "java/lang/String", name := "equals", desc := "(Ljava/lang/Object;)Z" } : Jvm.MethodName) jdk_42_method_66_code (3 : Nat) (Option.some Jvm.ClassFile.FieldType.boolean), Jvm.Cond.code ({ cls := "java/util/Optional", name := "empty", desc := "()Ljava/util/Optional;" } : Jvm.MethodName) jdk_32_method_1_code (1 : Nat) (Option.some (Jvm.ClassFile.FieldType.object "java/util/Optional")), Jvm.Cond.code ({ cls := "java/lang/StringUTF16", name := "compress", desc := "([CII)[B" } : Jvm.MethodName) jdk_52_method_16_code (6 : Nat) (Option.some (Jvm.ClassFile.FieldType.array Jvm.ClassFile.FieldType.byte)), Jvm.Cond.code ({ cls := "java/lang/StringUTF16", name := "compress", desc := "([CI[BII)I" } : Jvm.MethodName) jdk_52_method_21_code (7 : Nat) (Option.some Jvm.ClassFile.FieldType.int), Jvm.Cond.code ({ cls := "java/lang/StringUTF16", name := "coderFromArrayLen", desc := "([BI)B" } : Jvm.MethodName) jdk_52_method_15_code (2 : Nat) (Option.some Jvm.ClassFile.FieldType.byte), Jvm.Cond.code ({ cls := "java/lang/StringLatin1", name := "equals", desc := "([B[B)Z" } : Jvm.MethodName) jdk_43_method_13_code (3 : Nat) (Option.some Jvm.ClassFile.FieldType.boolean)]
set_option maxRecDepth 65536 in
theorem codes_eq : words1.filter isCode = codes1 := rfl
theorem w_codes : ∀ c ∈ words1.filter isCode, c.before args0 about1 = true := by
  rw [codes_eq]
  intro c hc
  simp only [codes1, List.mem_cons, List.not_mem_nil, or_false] at hc
  rcases hc with rfl | rfl | rfl | rfl | rfl | rfl | rfl | rfl | rfl | rfl | rfl | rfl | rfl | rfl | rfl | rfl | rfl | rfl | rfl | rfl | rfl | rfl | rfl | rfl | rfl | rfl | rfl | rfl
  · exact w_c0
  · exact w_c1
  · exact w_c2
  · exact w_c3
  · exact w_c4
  · exact w_c5
  · exact w_c6
  · exact w_c7
  · exact w_c8
  · exact w_c9
  · exact w_c10
  · exact w_c11
  · exact w_c12
  · exact w_c13
  · exact w_c14
  · exact w_c15
  · exact w_c16
  · exact w_c17
  · exact w_c18
  · exact w_c19
  · exact w_c20
  · exact w_c21
  · exact w_c22
  · exact w_c23
  · exact w_c24
  · exact w_c25
  · exact w_c26
  · exact w_c27
set_option maxRecDepth 65536 in
theorem w_t1 : (words1.take 24).all (fun c => isCode c || c.before args0 about1) = true := by decide +kernel
set_option maxRecDepth 65536 in
theorem w_t2 : ((words1.drop 24).take 24).all (fun c => isCode c || c.before args0 about1) = true := by decide +kernel
set_option maxRecDepth 65536 in
theorem w_t3 : (((words1.drop 24).drop 24).take 24).all (fun c => isCode c || c.before args0 about1) = true := by decide +kernel
set_option maxRecDepth 65536 in
theorem w_t4 : ((((words1.drop 24).drop 24).drop 24).take 24).all (fun c => isCode c || c.before args0 about1) = true := by decide +kernel
set_option maxRecDepth 65536 in
theorem w_t5 : (((((words1.drop 24).drop 24).drop 24).drop 24).take 24).all (fun c => isCode c || c.before args0 about1) = true := by decide +kernel
set_option maxRecDepth 65536 in
theorem w_t6 : ((((((words1.drop 24).drop 24).drop 24).drop 24).drop 24).take 24).all (fun c => isCode c || c.before args0 about1) = true := by decide +kernel
set_option maxRecDepth 65536 in
theorem w_t7 : (((((((words1.drop 24).drop 24).drop 24).drop 24).drop 24).drop 24).take 24).all (fun c => isCode c || c.before args0 about1) = true := by decide +kernel
set_option maxRecDepth 65536 in
theorem w_t8 : (((((((words1.drop 24).drop 24).drop 24).drop 24).drop 24).drop 24).drop 24).all (fun c => isCode c || c.before args0 about1) = true := by decide +kernel
theorem w_tables : (allAtoms (Jvm.Cond.code x code maxLocals ret :: tables_1)).before args0 about1 = true := by
  rw [allAtoms_all]
  show words1.all (fun c => c.before args0 about1) = true
  refine all_split ?_ w_codes
  rw [← List.take_append_drop 24 words1, List.all_append, w_t1, ← List.take_append_drop 24 (words1.drop 24), List.all_append, w_t2, ← List.take_append_drop 24 ((words1.drop 24).drop 24), List.all_append, w_t3, ← List.take_append_drop 24 (((words1.drop 24).drop 24).drop 24), List.all_append, w_t4, ← List.take_append_drop 24 ((((words1.drop 24).drop 24).drop 24).drop 24), List.all_append, w_t5, ← List.take_append_drop 24 (((((words1.drop 24).drop 24).drop 24).drop 24).drop 24), List.all_append, w_t6, ← List.take_append_drop 24 ((((((words1.drop 24).drop 24).drop 24).drop 24).drop 24).drop 24), List.all_append, w_t7, w_t8]
  rfl
set_option maxRecDepth 65536 in
theorem w_rest : rest_1_c.before args0 about1 = true := by decide +kernel
set_option maxRecDepth 65536 in
theorem w_case : (Jvm.Cond.and given_1 narrow_1).before args0 about1 = true := by decide +kernel
set_option maxRecDepth 65536 in
theorem w_consts : constsHeld consts_1 about1 := Jvm.Lit.constsHeldB_iff.mp (by decide +kernel)
theorem w_applies : (headSpec (Jvm.Cond.code x code maxLocals ret :: tables_1) room_1).applies x e0.platform about1 = true :=
  (Spec.applies_iff w_frames).mpr ⟨w_running, w_runnable, w_alone, w_named, w_hears, w_ripe, w_room, w_tables⟩
theorem atStart : AtStart classFile x code maxLocals ret World_1 tables_1 room_1 Calls_1 rest_1 Pre_1 launch0 p0 e0 about1 theMethod args0 below0 :=
  ⟨lists_1, trivial, launch0.admits_env _ _ _, launch0.least_env, fairChoices_fair.cas, fairChoices_fair.clock, w_frames, w_args, w_heap, w_applies, ⟨w_consts, trivial⟩, w_rest, w_case⟩
end start1
theorem witness_1 : WitnessClaimed_1 := ⟨start1.p0, start1.e0, start1.about1, start1.theMethod, start1.args0, start1.below0, start1.atStart⟩
end Jvm.Pilot.@@N@@
