import JvmDerived
import JvmDerived.Pilot.@@N@@Statement
import JvmDerived.Pilot.@@N@@Code
set_option linter.unusedVariables false
set_option linter.unusedSimpArgs false
namespace Jvm.RoadKit
open Sem ClassFile Op Lib Jvm.Stand Jvm.Free Jvm.LawKit
section New
variable {p : Program} {l : Launch} {e : Env} {R : Room} {s : State} {m : MethodId} {args : Array Value} {below : List Frame} {meth : Method} {c : Code} {T : State} {locs : List Loc} {cells slots : Nat}
theorem retI (X : Stand p l e R s m args below meth c T locs cells slots) (hx : p.tables.exec = Jvm.exec) {pc : Nat} {Ls : Array Slot} {z : Int32} {rest : List Value} (hret : meth.sig.returnType = some .int) (hd : decode c.code pc = .ok (.ireturn, 1)) {fs : List Frame}
    (hl : ∀ (f : JFrame) (acts : List Action), f.method = m → f.locked = none → f.entered = [] → (doReturn e (T.setTop f) acts (some (.int z))).1 = T.setFrames fs) : Steps p.tables e below (T.setTop (mkF m pc Ls (.int z :: rest))) (T.setFrames fs) := by
  have hm' : T.vm.method? m = some meth := X.method'
  have hn : narrow .int (.int z) = .int z := rfl
  show Steps p.tables e below (T.setTop { method := m, pc := pc, locals := Ls, stack := _ :: rest, locked := none }) _
  jvm_step X.here [X.here.top, hx, hd, hm', hret, hn]
  first | (intro acts; rw [hl _ acts rfl rfl rfl]) | rw [hl _ _ rfl rfl rfl]
  exact Steps.refl _
end New
end Jvm.RoadKit
/- laws to paste: Road.backV, Road.lenW, Road.codOf, StrChars.pair_says, StrChars.narrow_ch, StrChars.shr1, StrChars.shr0 (cut by pick.py; bodies as the Statement names them) -/
namespace Jvm.Pilot.@@N@@
namespace StrChars
open Jvm Sem ClassFile Op Lib Jvm.Stand Jvm.Free.XT Jvm.Free.ALB Jvm.Free.JM Jvm.Free
open Jvm.Lib.Cold (StaticIs)
/-- a char array whose places are chars -/
def Ch (a : Addr) (A : Cell) (U : State) : Prop := Arr .char a A U ∧ Typed .char A
theorem Ch.mv {a : Addr} {A : Cell} {U U' : State} (h : Ch a A U) (hal : U.vm.Alike U'.vm) (hh : U'.heap = U.heap) : Ch a A U' := ⟨h.1.mv hal hh, h.2⟩
theorem Ch.keep {a : Addr} {A : Cell} {U U' : State} (h : Ch a A U) (hal : U.vm.Alike U'.vm) (hk : U'.heap[a]? = some A) : Ch a A U' := ⟨h.1.keep hal hk, h.2⟩
/-- what place i of a char[]'s cell holds -/
def cv (A : Cell) (i : Nat) : Int32 := match A.slots[i]? with | some (.int x) => x | _ => 0
theorem Ch.get {a : Addr} {A : Cell} {U : State} (h : Ch a A U) {i : Nat} (hi : i < A.slots.size) : A.slots[i]? = some (.int (cv A i)) := by
  have e := Array.getElem?_eq_getElem hi
  have f := h.2 i _ e
  unfold cv; rw [e]
  generalize A.slots[i] = v at f
  cases v <;> simp [fits] at f ⊢
/-- the byte that i2b leaves of a char -/
def lo8 (x : Int32) : Int32 := x.toInt8.toInt32
theorem fits_lo8 (y : Int32) : fits .byte (.int (lo8 y)) = true := by
  have h1 := y.toInt8.le_toInt
  have h2 := y.toInt8.toInt_lt
  simp only [lo8, fits, Bool.and_eq_true, decide_eq_true_eq, Int32.le_iff_toInt_le, Int8.toInt_toInt32, show (-128 : Int32).toInt = -128 from by decide, show (127 : Int32).toInt = 127 from by decide]
  omega
/-- A' is A but that each place j of lo .. hi - 1 holds f j -/
def Laid (A A' : Cell) (lo hi : Nat) (f : Nat → Value) : Prop := A'.cls = A.cls ∧ A'.vm = A.vm ∧ A'.slots.size = A.slots.size ∧ ∀ i, A'.slots[i]? = if lo ≤ i ∧ i < hi then some (f i) else A.slots[i]?
theorem Laid.zero (A : Cell) (lo : Nat) (f : Nat → Value) : Laid A A lo (lo + 0) f := ⟨rfl, rfl, rfl, fun i => by rw [if_neg (by omega)]⟩
theorem Laid.step {A Ak : Cell} {lo k : Nat} {f : Nat → Value} {v : Value} (h : Laid A Ak lo k f) (hlo : lo ≤ k) (hk : k < Ak.slots.size) (hv : v = f k) : Laid A (Ak.setSlot k v) lo (k + 1) f := by
  refine ⟨h.1, h.2.1, by simpa [Cell.setSlot] using h.2.2.1, fun i => ?_⟩
  by_cases e : k = i
  · subst e; rw [Cell.slots_setSlot_self v hk, if_pos (by omega), hv]
  · rw [Cell.slots_setSlot_ne v e, h.2.2.2 i]
    by_cases q : lo ≤ i ∧ i < k
    · rw [if_pos q, if_pos (by omega)]
    · rw [if_neg q, if_neg (by omega)]
def U16 : String := "java/lang/StringUTF16"
namespace Cmp5
def yN : MethodName := ⟨"java/lang/StringUTF16", "compress", "([CI[BII)I"⟩
abbrev yB : ByteArray := jdk_52_method_21_code
theorem d0 : decode yB 0 = .ok (.iconst 0, 1) := by decide +kernel
theorem d1 : decode yB 1 = .ok (.istore 5, 2) := by decide +kernel
theorem d3 : decode yB 3 = .ok (.iload 5, 2) := by decide +kernel
theorem d5 : decode yB 5 = .ok (.iload 4, 2) := by decide +kernel
theorem d7 : decode yB 7 = .ok (.if_icmp (.ge) 37, 3) := by decide +kernel
theorem d10 : decode yB 10 = .ok (.aload_n 0, 1) := by decide +kernel
theorem d11 : decode yB 11 = .ok (.iload_n 1, 1) := by decide +kernel
theorem d12 : decode yB 12 = .ok (.caload, 1) := by decide +kernel
theorem d13 : decode yB 13 = .ok (.istore 6, 2) := by decide +kernel
theorem d15 : decode yB 15 = .ok (.iload 6, 2) := by decide +kernel
theorem d17 : decode yB 17 = .ok (.sipush 255, 3) := by decide +kernel
theorem d20 : decode yB 20 = .ok (.if_icmp (.le) 6, 3) := by decide +kernel
theorem d26 : decode yB 26 = .ok (.aload_n 2, 1) := by decide +kernel
theorem d27 : decode yB 27 = .ok (.iload_n 3, 1) := by decide +kernel
theorem d28 : decode yB 28 = .ok (.iload 6, 2) := by decide +kernel
theorem d30 : decode yB 30 = .ok (.i2b, 1) := by decide +kernel
theorem d31 : decode yB 31 = .ok (.bastore, 1) := by decide +kernel
theorem d32 : decode yB 32 = .ok (.iinc 1 1, 3) := by decide +kernel
theorem d35 : decode yB 35 = .ok (.iinc 3 1, 3) := by decide +kernel
theorem d38 : decode yB 38 = .ok (.iinc 5 1, 3) := by decide +kernel
theorem d41 : decode yB 41 = .ok (.goto (-38), 3) := by decide +kernel
theorem d44 : decode yB 44 = .ok (.iload 4, 2) := by decide +kernel
theorem d46 : decode yB 46 = .ok (.ireturn, 1) := by decide +kernel
def site : List Cond := []
def tab : Cond := tabOf yN yB 7 (some .int) site
def P (b : Addr) (A : Cell) (d : Addr) (B : Cell) (o q len : Nat) (args : Array Value) (s : State) : Prop := args = #[.ref b, .int (Int32.ofNat o), .ref d, .int (Int32.ofNat q), .int (Int32.ofNat len)] ∧ Ch b A s ∧ Arr .byte d B s ∧ b ≠ d ∧ o + len ≤ A.slots.size ∧ q + len ≤ B.slots.size ∧ ∀ i, i < len → ¬ 255 < cv A (o + i)
def E (b : Addr) (A : Cell) (d : Addr) (B : Cell) (o q len : Nat) (r : Option Value) (s u : State) : Prop := r = some (.int (Int32.ofNat len)) ∧ ∃ B', Put d B' s u ∧ Laid B B' q (q + len) (fun j => Value.int (lo8 (cv A (o + (j - q)))))
/-- no char of the range above 255: len; the places written hold each char's low byte -/
theorem law (l : Launch) (b : Addr) (A : Cell) (d : Addr) (B : Cell) (o q len : Nat) : Law l yN 5 5 0 0 yB 7 (some .int) site (P b A d B o q len) (E b A d B o q len) (copyLocs d q len) 0 0 := by
  refine Law.of_walk (plainFor_of_name (by decide +kernel)) (by decide +kernel) (by decide +kernel) (by decide) (fun _ _ h => by rw [h.1]; rfl) (fun _ U U' hal hh h => ⟨h.1, h.2.1.mv hal hh, h.2.2.1.mv hal hh, h.2.2.2⟩) (fun r U U' V V' h1 hal h2 h => ⟨h.1, h.2.elim fun B' q => ⟨B', q.1.mv h1 h2, q.2⟩⟩) ?_
  intro p e s m args below meth c s₁ X0 hexec hbytes hml hret hlk hnm hown hh0 W hP
  obtain ⟨rfl, hA, hB, hne, l1, l2, hp⟩ := hP
  have c1 : Steps p.tables e below (s₁.setTop (entryFrame m #[.ref b, .int (Int32.ofNat o), .ref d, .int (Int32.ofNat q), .int (Int32.ofNat len)] 7)) (s₁.setTop (mkF m 0 #[.val (.ref b), .val (.int (Int32.ofNat o)), .val (.ref d), .val (.int (Int32.ofNat q)), .val (.int (Int32.ofNat len)), .unset, .unset] [])) := entry rfl
  have hA0 := hA.1.mv X0.warmed.alike hh0
  have hB0 := hB.mv X0.warmed.alike hh0
  have a31 := hA.1.2.2.2
  have c2 : Steps p.tables e below (s₁.setTop (entryFrame m #[.ref b, .int (Int32.ofNat o), .ref d, .int (Int32.ofNat q), .int (Int32.ofNat len)] 7)) (s₁.setTop (mkF m 3 #[.val (.ref b), .val (.int (Int32.ofNat o)), .val (.ref d), .val (.int (Int32.ofNat q)), .val (.int (Int32.ofNat len)), .val (.int 0), .unset] [])) := c1.trans (by
    refine iconstV X0.here hexec rfl 0 (hb hbytes d0) (by decide) ?_
    refine XS.istore X0.here hexec rfl (hb hbytes d1) rfl rfl ?_
    exact Steps.refl _)
  have loop : ∀ (r i : Nat), i + r = len → ∀ (z : Slot), (z = .unset ∨ ∃ w, z = .val w ∧ w.category = 1) → ∀ (Tl : State) (Bk : Cell), Stand p l e { frames := 0, locals := 0, cells := 0, slots := 0 } s m #[.ref b, .int (Int32.ofNat o), .ref d, .int (Int32.ofNat q), .int (Int32.ofNat len)] below meth c Tl ([] ++ copyLocs d q i) 0 0 → Put d Bk s₁ Tl → Laid B Bk q (q + i) (fun j => Value.int (lo8 (cv A (o + (j - q))))) →
      Steps p.tables e below (s₁.setTop (entryFrame m #[.ref b, .int (Int32.ofNat o), .ref d, .int (Int32.ofNat q), .int (Int32.ofNat len)] 7)) (Tl.setTop (mkF m 3 #[.val (.ref b), .val (.int (Int32.ofNat (o + i))), .val (.ref d), .val (.int (Int32.ofNat (q + i))), .val (.int (Int32.ofNat len)), .val (.int (Int32.ofNat i)), z] [])) → ∃ (T' : State) (B' : Cell) (z' : Slot), Stand p l e { frames := 0, locals := 0, cells := 0, slots := 0 } s m #[.ref b, .int (Int32.ofNat o), .ref d, .int (Int32.ofNat q), .int (Int32.ofNat len)] below meth c T' ([] ++ copyLocs d q len) 0 0 ∧ Put d B' s₁ T' ∧ Laid B B' q (q + len) (fun j => Value.int (lo8 (cv A (o + (j - q))))) ∧
      Steps p.tables e below (s₁.setTop (entryFrame m #[.ref b, .int (Int32.ofNat o), .ref d, .int (Int32.ofNat q), .int (Int32.ofNat len)] 7)) (T'.setTop (mkF m 3 #[.val (.ref b), .val (.int (Int32.ofNat (o + len))), .val (.ref d), .val (.int (Int32.ofNat (q + len))), .val (.int (Int32.ofNat len)), .val (.int (Int32.ofNat len)), z'] [])) := by
    intro r
    induction r with
    | zero =>
      intro i hi z hz Tl Bk Xl pl fl cl
      have hil : i = len := by omega
      rw [hil] at Xl fl cl
      exact ⟨Tl, Bk, z, Xl, pl, fl, cl⟩
    | succ r ih =>
      intro i hi z hz Tl Bk Xl pl fl cl
      have all := X0.warmed.alike.symm.trans Xl.warmed.alike
      have hAl := hA0.keep all (pl.other hne hA0.1)
      have hBk := hB0.like all pl.1 fl.1 fl.2.1 fl.2.2.1
      have hlt : q + i < Bk.slots.size := by rw [fl.2.2.1]; omega
      have c3 : Steps p.tables e below (s₁.setTop (entryFrame m #[.ref b, .int (Int32.ofNat o), .ref d, .int (Int32.ofNat q), .int (Int32.ofNat len)] 7)) (Tl.setTop (mkF m 12 #[.val (.ref b), .val (.int (Int32.ofNat (o + i))), .val (.ref d), .val (.int (Int32.ofNat (q + i))), .val (.int (Int32.ofNat len)), .val (.int (Int32.ofNat i)), z] [.int (Int32.ofNat (o + i)), .ref b])) := cl.trans (by
        refine XS.iload Xl.here hexec rfl (hb hbytes d3) rfl ?_
        refine XS.iload Xl.here hexec rfl (hb hbytes d5) rfl ?_
        refine XS.icmpNo Xl.here hexec rfl (hb hbytes d7) rfl (ii_ge_f (lt32 (by omega) (by omega))) ?_
        refine XS.aloadN Xl.here hexec rfl (hb hbytes d10) rfl rfl ?_
        refine XS.iloadN Xl.here hexec rfl (hb hbytes d11) rfl ?_
        exact Steps.refl _)
      have c4 : Steps p.tables e below (s₁.setTop (entryFrame m #[.ref b, .int (Int32.ofNat o), .ref d, .int (Int32.ofNat q), .int (Int32.ofNat len)] 7)) (Tl.setTop (mkF m 13 #[.val (.ref b), .val (.int (Int32.ofNat (o + i))), .val (.ref d), .val (.int (Int32.ofNat (q + i))), .val (.int (Int32.ofNat len)), .val (.int (Int32.ofNat i)), z] [.int (cv A (o + i))])) := c3.trans (by
        refine Xl.aget hexec hAl rfl (hA.get (i := o + i) (by omega)) rfl rfl (hb hbytes d12) ?_
        exact Steps.refl _)
      have c5 : Steps p.tables e below (s₁.setTop (entryFrame m #[.ref b, .int (Int32.ofNat o), .ref d, .int (Int32.ofNat q), .int (Int32.ofNat len)] 7)) (Tl.setTop (mkF m 15 #[.val (.ref b), .val (.int (Int32.ofNat (o + i))), .val (.ref d), .val (.int (Int32.ofNat (q + i))), .val (.int (Int32.ofNat len)), .val (.int (Int32.ofNat i)), .val (.int (cv A (o + i)))] [])) := c4.trans (by
        refine XS.istoreS Xl.here hexec rfl (hb hbytes d13) rfl rfl hz ?_
        exact Steps.refl _)
      have c6 : Steps p.tables e below (s₁.setTop (entryFrame m #[.ref b, .int (Int32.ofNat o), .ref d, .int (Int32.ofNat q), .int (Int32.ofNat len)] 7)) (Tl.setTop (mkF m 31 #[.val (.ref b), .val (.int (Int32.ofNat (o + i))), .val (.ref d), .val (.int (Int32.ofNat (q + i))), .val (.int (Int32.ofNat len)), .val (.int (Int32.ofNat i)), .val (.int (cv A (o + i)))] [.int (lo8 (cv A (o + i))), .int (Int32.ofNat (q + i)), .ref d])) := c5.trans (by
        refine XS.iload Xl.here hexec rfl (hb hbytes d15) rfl ?_
        refine sipushV Xl.here hexec rfl 255 (hb hbytes d17) (by decide) ?_
        refine XS.icmpYes Xl.here hexec rfl (pc0 := 20) rfl (hb hbytes d20) rfl (ii_le_t (hp i (by omega))) (by decide) rfl ?_
        refine XS.aloadN Xl.here hexec rfl (hb hbytes d26) rfl rfl ?_
        refine XS.iloadN Xl.here hexec rfl (hb hbytes d27) rfl ?_
        refine XS.iload Xl.here hexec rfl (hb hbytes d28) rfl ?_
        refine i2b Xl.here hexec rfl (hb hbytes d30) rfl ?_
        exact Steps.refl _)
      obtain ⟨T7, X7, p7, st7⟩ := Xl.aput hexec hBk rfl hlt rfl (fits_lo8 (cv A (o + i))) (g := (mkF m 31 #[.val (.ref b), .val (.int (Int32.ofNat (o + i))), .val (.ref d), .val (.int (Int32.ofNat (q + i))), .val (.int (Int32.ofNat len)), .val (.int (Int32.ofNat i)), .val (.int (cv A (o + i)))] [.int (lo8 (cv A (o + i))), .int (Int32.ofNat (q + i)), .ref d])) rfl (rest := []) rfl (hb hbytes d31)
      have c8 : Steps p.tables e below (s₁.setTop (entryFrame m #[.ref b, .int (Int32.ofNat o), .ref d, .int (Int32.ofNat q), .int (Int32.ofNat len)] 7)) (T7.setTop (mkF m 32 #[.val (.ref b), .val (.int (Int32.ofNat (o + i))), .val (.ref d), .val (.int (Int32.ofNat (q + i))), .val (.int (Int32.ofNat len)), .val (.int (Int32.ofNat i)), .val (.int (cv A (o + i)))] [])) := c6.trans (st7 _ (Steps.refl _))
      have c9 : Steps p.tables e below (s₁.setTop (entryFrame m #[.ref b, .int (Int32.ofNat o), .ref d, .int (Int32.ofNat q), .int (Int32.ofNat len)] 7)) (T7.setTop (mkF m 3 #[.val (.ref b), .val (.int (Int32.ofNat (o + i) + 1)), .val (.ref d), .val (.int (Int32.ofNat (q + i) + 1)), .val (.int (Int32.ofNat len)), .val (.int (Int32.ofNat i + 1)), .val (.int (cv A (o + i)))] [])) := c8.trans (by
        refine iincV X7.here hexec rfl 1 (hb hbytes d32) (by decide) rfl rfl ?_
        refine iincV X7.here hexec rfl 1 (hb hbytes d35) (by decide) rfl rfl ?_
        refine iincV X7.here hexec rfl 1 (hb hbytes d38) (by decide) rfl rfl ?_
        refine XS.goto X7.here hexec rfl (pc0 := 41) rfl (hb hbytes d41) (by decide) rfl ?_
        exact Steps.refl _)
      have c10 : Steps p.tables e below (s₁.setTop (entryFrame m #[.ref b, .int (Int32.ofNat o), .ref d, .int (Int32.ofNat q), .int (Int32.ofNat len)] 7)) (T7.setTop (mkF m 3 #[.val (.ref b), .val (.int (Int32.ofNat (o + (i + 1)))), .val (.ref d), .val (.int (Int32.ofNat (q + (i + 1)))), .val (.int (Int32.ofNat len)), .val (.int (Int32.ofNat (i + 1))), .val (.int (cv A (o + i)))] [])) := by
        have := c9
        rw [succ32, succ32, succ32] at this
        exact this
      exact ih (i + 1) (by omega) _ (Or.inr ⟨_, rfl, rfl⟩) T7 _ (by rw [copyLocs_step, ← List.append_assoc]; exact X7) (pl.trans p7) (fl.step (by omega) hlt (by simp)) c10
  obtain ⟨T9, B9, z9, X9, p9, f9, g9⟩ := loop len 0 (by omega) .unset (Or.inl rfl) s₁ B (by simpa [copyLocs] using X0) ⟨hB0.1, fun _ _ => rfl, rfl⟩ (Laid.zero _ _ _) c2
  have c11 : Steps p.tables e below (s₁.setTop (entryFrame m #[.ref b, .int (Int32.ofNat o), .ref d, .int (Int32.ofNat q), .int (Int32.ofNat len)] 7)) (T9.setTop (mkF m 46 #[.val (.ref b), .val (.int (Int32.ofNat (o + len))), .val (.ref d), .val (.int (Int32.ofNat (q + len))), .val (.int (Int32.ofNat len)), .val (.int (Int32.ofNat len)), z9] [.int (Int32.ofNat len)])) := g9.trans (by
    refine XS.iload X9.here hexec rfl (hb hbytes d3) rfl ?_
    refine XS.iload X9.here hexec rfl (hb hbytes d5) rfl ?_
    refine XS.icmpYes X9.here hexec rfl (pc0 := 7) rfl (hb hbytes d7) rfl (ii_ge_t (nlt32 (by omega) (Nat.le_refl _))) (by decide) rfl ?_
    refine XS.iload X9.here hexec rfl (hb hbytes d44) rfl ?_
    exact Steps.refl _)
  exact ⟨T9, some (.int (Int32.ofNat len)), _, _, _, X9, by simp, rfl, rfl, (fun h => by cases h), ⟨rfl, B9, p9.from hh0, f9⟩, fun fs hl => c11.trans (X9.ireturnOut hexec hret rfl (Or.inl rfl) (hb hbytes d46) hl)⟩
end Cmp5
namespace Cmp3
def yN : MethodName := ⟨"java/lang/StringUTF16", "compress", "([CII)[B"⟩
abbrev yB : ByteArray := jdk_52_method_16_code
theorem d0 : decode yB 0 = .ok (.iload_n 2, 1) := by decide +kernel
theorem d1 : decode yB 1 = .ok (.newarray .byte, 2) := by decide +kernel
theorem d3 : decode yB 3 = .ok (.astore_n 3, 1) := by decide +kernel
theorem d4 : decode yB 4 = .ok (.aload_n 0, 1) := by decide +kernel
theorem d5 : decode yB 5 = .ok (.iload_n 1, 1) := by decide +kernel
theorem d6 : decode yB 6 = .ok (.aload_n 3, 1) := by decide +kernel
theorem d7 : decode yB 7 = .ok (.iconst 0, 1) := by decide +kernel
theorem d8 : decode yB 8 = .ok (.iload_n 2, 1) := by decide +kernel
theorem d9 : decode yB 9 = .ok (.invokestatic 115, 3) := by decide +kernel
theorem d12 : decode yB 12 = .ok (.istore 4, 2) := by decide +kernel
theorem d14 : decode yB 14 = .ok (.iload 4, 2) := by decide +kernel
theorem d16 : decode yB 16 = .ok (.iload_n 2, 1) := by decide +kernel
theorem d17 : decode yB 17 = .ok (.if_icmp (.eq) 40, 3) := by decide +kernel
theorem d57 : decode yB 57 = .ok (.aload_n 3, 1) := by decide +kernel
theorem d58 : decode yB 58 = .ok (.areturn, 1) := by decide +kernel
def site : List Cond := [.arrayClass .byte, Cmp5.tab] ++ staticW U16 115 Cmp5.yN
def tab : Cond := tabOf yN yB 6 (some (.array .byte)) site
def P (b : Addr) (A : Cell) (o len : Nat) (args : Array Value) (s : State) : Prop := args = #[.ref b, .int (Int32.ofNat o), .int (Int32.ofNat len)] ∧ Ch b A s ∧ o + len ≤ A.slots.size ∧ len ≤ 536870912 ∧ ∀ i, i < len → ¬ 255 < cv A (o + i)
def E (b : Addr) (A : Cell) (o len : Nat) (r : Option Value) (s u : State) : Prop := NewArr .byte "[B" len (fun j => .int (lo8 (cv A (o + j)))) r s u ∧ u.heap.size = s.heap.size + 1
/-- no char of the range above 255: a new byte[] of their low bytes -/
theorem law (l : Launch) (b : Addr) (A : Cell) (o len : Nat) : Law l yN 3 3 1 18 yB 6 (some (.array .byte)) site (P b A o len) (E b A o len) [] 1 len := by
  refine Law.of_walk (plainFor_of_name (by decide +kernel)) (by decide +kernel) (by decide +kernel) (by decide) (fun _ _ h => by rw [h.1]; rfl) (fun _ U U' hal hh h => ⟨h.1, h.2.1.mv hal hh, h.2.2⟩) (fun r U U' V V' h1 hal h2 h => ⟨NewArr.mv r U U' V V' h1 hal h2 h.1, by rw [h1, h2]; exact h.2⟩) ?_
  intro p e s m args below meth c s₁ X0 hexec hbytes hml hret hlk hnm hown hh0 W hP
  obtain ⟨rfl, hA, l1, l2, hp⟩ := hP
  have a31 := hA.1.2.2.2
  have c1 : Steps p.tables e below (s₁.setTop (entryFrame m #[.ref b, .int (Int32.ofNat o), .int (Int32.ofNat len)] 6)) (s₁.setTop (mkF m 0 #[.val (.ref b), .val (.int (Int32.ofNat o)), .val (.int (Int32.ofNat len)), .unset, .unset, .unset] [])) := entry rfl
  have c2 : Steps p.tables e below (s₁.setTop (entryFrame m #[.ref b, .int (Int32.ofNat o), .int (Int32.ofNat len)] 6)) (s₁.setTop (mkF m 1 #[.val (.ref b), .val (.int (Int32.ofNat o)), .val (.int (Int32.ofNat len)), .unset, .unset, .unset] [.int (Int32.ofNat len)])) := c1.trans (by
    refine XS.iloadN X0.here hexec rfl (hb hbytes d0) rfl ?_
    exact Steps.refl _)
  obtain ⟨T3, B3, X3, ba3, bs3, bv3, bh3, bf3, st3⟩ := X0.anew hexec (atype := .byte) (wk W (.arrayClass .byte)) rfl (by show len * 1 ≤ _; omega) (by omega) (g := (mkF m 1 #[.val (.ref b), .val (.int (Int32.ofNat o)), .val (.int (Int32.ofNat len)), .unset, .unset, .unset] [.int (Int32.ofNat len)])) rfl (hb hbytes d1) (rest := []) rfl (Nat.le_refl _) (by show 0 + len ≤ len; omega)
  rw [hh0] at ba3 st3
  have kp3 : XT.Kept s T3 := (XT.Kept.of_eq hh0).push bh3
  have hA3 := hA.keep X3.warmed.alike (kp3 _ _ hA.1.1)
  have hne : b ≠ s.heap.size := hA.1.ne
  have c4 : Steps p.tables e below (s₁.setTop (entryFrame m #[.ref b, .int (Int32.ofNat o), .int (Int32.ofNat len)] 6)) (T3.setTop (mkF m 3 #[.val (.ref b), .val (.int (Int32.ofNat o)), .val (.int (Int32.ofNat len)), .unset, .unset, .unset] [.ref s.heap.size])) := c2.trans (st3 _ (Steps.refl _))
  have c5 : Steps p.tables e below (s₁.setTop (entryFrame m #[.ref b, .int (Int32.ofNat o), .int (Int32.ofNat len)] 6)) (T3.setTop (mkF m 9 #[.val (.ref b), .val (.int (Int32.ofNat o)), .val (.int (Int32.ofNat len)), .val (.ref s.heap.size), .unset, .unset] [.int (Int32.ofNat len), .int 0, .ref s.heap.size, .int (Int32.ofNat o), .ref b])) := c4.trans (by
    refine XS.astoreN X3.here hexec rfl (hb hbytes d3) rfl rfl rfl ?_
    refine XS.aloadN X3.here hexec rfl (hb hbytes d4) rfl rfl ?_
    refine XS.iloadN X3.here hexec rfl (hb hbytes d5) rfl ?_
    refine XS.aloadN X3.here hexec rfl (hb hbytes d6) rfl rfl ?_
    refine iconstV X3.here hexec rfl 0 (hb hbytes d7) (by decide) ?_
    refine XS.iloadN X3.here hexec rfl (hb hbytes d8) rfl ?_
    exact Steps.refl _)
  obtain ⟨v6, T6, X6, E6, g6⟩ := X3.callS hexec (Cmp5.law l b A s.heap.size B3 o 0 len) hown (wks W (staticW U16 115 Cmp5.yN)) (wk W Cmp5.tab) (W := 0) (Nat.le_of_ble_eq_true rfl) (Nat.le_of_ble_eq_true rfl) (Nat.le_refl _) (by show 0 + len + 0 ≤ len; omega) (g := (mkF m 9 #[.val (.ref b), .val (.int (Int32.ofNat o)), .val (.int (Int32.ofNat len)), .val (.ref s.heap.size), .unset, .unset] [.int (Int32.ofNat len), .int (Int32.ofNat 0), .ref s.heap.size, .int (Int32.ofNat o), .ref b])) rfl (by rw [hml]; rfl) c5 (argsL := [.ref b, .int (Int32.ofNat o), .ref s.heap.size, .int (Int32.ofNat 0), .int (Int32.ofNat len)]) (rest := []) rfl rfl (by show 2 * 0 + 0 ≤ _; decide) (hb hbytes d9) (⟨rfl, hA3, ba3, hne, l1, by rw [bs3]; simp, hp⟩)
  obtain ⟨rfl, B6, p6, f6⟩ := E6
  have c7 : Steps p.tables e below (s₁.setTop (entryFrame m #[.ref b, .int (Int32.ofNat o), .int (Int32.ofNat len)] 6)) (T6.setTop (mkF m 12 #[.val (.ref b), .val (.int (Int32.ofNat o)), .val (.int (Int32.ofNat len)), .val (.ref s.heap.size), .unset, .unset] [.int (Int32.ofNat len)])) := g6
  have c8 : Steps p.tables e below (s₁.setTop (entryFrame m #[.ref b, .int (Int32.ofNat o), .int (Int32.ofNat len)] 6)) (T6.setTop (mkF m 58 #[.val (.ref b), .val (.int (Int32.ofNat o)), .val (.int (Int32.ofNat len)), .val (.ref s.heap.size), .val (.int (Int32.ofNat len)), .unset] [.ref s.heap.size])) := c7.trans (by
    refine XS.istore X6.here hexec rfl (hb hbytes d12) rfl rfl ?_
    refine XS.iload X6.here hexec rfl (hb hbytes d14) rfl ?_
    refine XS.iloadN X6.here hexec rfl (hb hbytes d16) rfl ?_
    refine XS.icmpYes X6.here hexec rfl (pc0 := 17) rfl (hb hbytes d17) rfl (ii_eq_t rfl) (by decide) rfl ?_
    refine XS.aloadN X6.here hexec rfl (hb hbytes d57) rfl rfl ?_
    exact Steps.refl _)
  have X8 := X6.wide (L' := []) (cells' := 1) (slots' := len) (fun x hx hlt => by
    simp only [List.nil_append, copyLocs, List.mem_map, List.mem_range] at hx
    obtain ⟨i, -, rfl⟩ := hx
    exact absurd hlt (Nat.lt_irrefl _)) (Nat.le_refl _) (by omega)
  exact ⟨T6, some (.ref s.heap.size), _, _, _, X8, rfl, rfl, rfl, (fun h => by cases h), ⟨⟨rfl, B6, ba3.like (X3.warmed.alike.symm.trans X6.warmed.alike) p6.1 f6.1 f6.2.1 f6.2.2.1, f6.2.1.trans bv3, by rw [X6.warmed.alike.findClass, f6.1]; exact bf3, by rw [f6.2.2.1, bs3]; simp, fun j hj => by rw [f6.2.2.2 j, if_pos (by omega)]; rfl, kp3.put p6 (Nat.le_refl _)⟩, by rw [p6.2.2, bh3, hh0]; simp⟩, fun fs hl => c8.trans (X8.areturnOut hexec rfl hret rfl (hb hbytes d58) hl)⟩
end Cmp3
namespace CodL
def yN : MethodName := ⟨"java/lang/StringUTF16", "coderFromArrayLen", "([BI)B"⟩
abbrev yB : ByteArray := jdk_52_method_15_code
theorem d0 : decode yB 0 = .ok (.iload_n 1, 1) := by decide +kernel
theorem d1 : decode yB 1 = .ok (.aload_n 0, 1) := by decide +kernel
theorem d2 : decode yB 2 = .ok (.arraylength, 1) := by decide +kernel
theorem d3 : decode yB 3 = .ok (.isub, 1) := by decide +kernel
theorem d4 : decode yB 4 = .ok (.bipush 31, 2) := by decide +kernel
theorem d6 : decode yB 6 = .ok (.iushr, 1) := by decide +kernel
theorem d7 : decode yB 7 = .ok (.i2b, 1) := by decide +kernel
theorem d8 : decode yB 8 = .ok (.ireturn, 1) := by decide +kernel
def site : List Cond := []
def tab : Cond := tabOf yN yB 2 (some .byte) site
def P (d : Addr) (B : Cell) (args : Array Value) (s : State) : Prop := args = #[.ref d, .int (Int32.ofNat B.slots.size)] ∧ Arr .byte d B s
def E (r : Option Value) (s u : State) : Prop := XT.PureE (some (.int 0)) r s u
/-- an array as long as the number of chars: LATIN1 -/
theorem law (l : Launch) (d : Addr) (B : Cell) : Law l yN 2 2 0 0 yB 2 (some .byte) site (P d B) E [] 0 0 := by
  refine Law.of_walk (plainFor_of_name (by decide +kernel)) (by decide +kernel) (by decide +kernel) (by decide) (fun _ _ h => by rw [h.1]; rfl) (fun _ U U' hal hh h => ⟨h.1, h.2.mv hal hh⟩) (fun r U U' V V' h1 hal h2 h => XT.PureE.mv r U U' V V' h1 hal h2 h) ?_
  intro p e s m args below meth c s₁ X0 hexec hbytes hml hret hlk hnm hown hh0 W hP
  obtain ⟨rfl, hB⟩ := hP
  have hB0 := hB.mv X0.warmed.alike hh0
  have c1 : Steps p.tables e below (s₁.setTop (entryFrame m #[.ref d, .int (Int32.ofNat B.slots.size)] 2)) (s₁.setTop (mkF m 0 #[.val (.ref d), .val (.int (Int32.ofNat B.slots.size))] [])) := entry rfl
  have c2 : Steps p.tables e below (s₁.setTop (entryFrame m #[.ref d, .int (Int32.ofNat B.slots.size)] 2)) (s₁.setTop (mkF m 2 #[.val (.ref d), .val (.int (Int32.ofNat B.slots.size))] [.ref d, .int (Int32.ofNat B.slots.size)])) := c1.trans (by
    refine XS.iloadN X0.here hexec rfl (hb hbytes d0) rfl ?_
    refine XS.aloadN X0.here hexec rfl (hb hbytes d1) rfl rfl ?_
    exact Steps.refl _)
  have c3 : Steps p.tables e below (s₁.setTop (entryFrame m #[.ref d, .int (Int32.ofNat B.slots.size)] 2)) (s₁.setTop (mkF m 8 #[.val (.ref d), .val (.int (Int32.ofNat B.slots.size))] [.int (lo8 (ushr (Int32.ofNat B.slots.size - Int32.ofNat B.slots.size) 31))])) := c2.trans (by
    refine X0.alen hexec hB0 rfl rfl (hb hbytes d2) ?_
    refine XS.isub X0.here hexec rfl (hb hbytes d3) rfl ?_
    refine bipushV X0.here hexec rfl 31 (hb hbytes d4) (by decide) ?_
    refine iushr X0.here hexec rfl (hb hbytes d6) rfl ?_
    refine i2b X0.here hexec rfl (hb hbytes d7) rfl ?_
    exact Steps.refl _)
  have e0 : lo8 (ushr (Int32.ofNat B.slots.size - Int32.ofNat B.slots.size) 31) = 0 := by rw [Int32.sub_self]; decide
  rw [e0] at c3
  exact ⟨s₁, some (.int 0), _, _, _, X0, rfl, rfl, rfl, (fun h => by cases h), ⟨rfl, hh0⟩, fun fs hl => c3.trans (X0.ireturnOut hexec hret rfl (Or.inr (Or.inr (Or.inl rfl))) (hb hbytes d8) hl)⟩
end CodL
/-- the String at a is Latin-1 over a new byte[] (the heap's one new cell): the low bytes of the len chars of A from o on; every cell but a is kept -/
def Got (a : Addr) (D : Cell) (fV fC : Field) (A : Cell) (o len : Nat) (r : Option Value) (s u : State) : Prop := r = none ∧ ∃ D' V : Cell, Blank "java/lang/String" a D' u ∧ Same D D' [fV.slot, fC.slot] ∧ D'.slots[fV.slot]? = some (.ref s.heap.size) ∧ D'.slots[fC.slot]? = some (.int 0) ∧ Arr .byte s.heap.size V u ∧ V.vm = .none ∧ u.vm.findClass "[B" = some V.cls ∧ V.slots.size = len ∧ (∀ j, j < len → V.slots[j]? = some (.int (lo8 (cv A (o + j))))) ∧ (∀ (y : Addr) (c : Cell), y ≠ a → s.heap[y]? = some c → u.heap[y]? = some c) ∧ u.heap.size = s.heap.size + 1
theorem Got.mv {a : Addr} {D A : Cell} {fV fC : Field} {o len : Nat} : ∀ r (U U' V V' : State), U'.heap = U.heap → V.vm.Alike V'.vm → V'.heap = V.heap → Got a D fV fC A o len r U V → Got a D fV fC A o len r U' V' :=
  fun r U U' V V' h1 hal h2 ⟨e0, D', X, a1, a2, a3, a4, a5, a6, a7, a8, a9, a10, a11⟩ => ⟨e0, D', X, a1.mv hal h2, a2, by rw [h1]; exact a3, a4, by rw [h1]; exact a5.mv hal h2, a6, by rw [hal.findClass]; exact a7, a8, a9, by rw [h1, h2]; exact a10, by rw [h1, h2]; exact a11⟩
namespace New4
def yN : MethodName := ⟨"java/lang/String", "<init>", "([CIILjava/lang/Void;)V"⟩
abbrev yB : ByteArray := jdk_42_method_149_code
theorem d0 : decode yB 0 = .ok (.aload_n 0, 1) := by decide +kernel
theorem d1 : decode yB 1 = .ok (.invokespecial 1, 3) := by decide +kernel
theorem d4 : decode yB 4 = .ok (.iload_n 3, 1) := by decide +kernel
theorem d5 : decode yB 5 = .ok (.ifCond (.ne) 22, 3) := by decide +kernel
theorem d27 : decode yB 27 = .ok (.getstatic 38, 3) := by decide +kernel
theorem d30 : decode yB 30 = .ok (.ifCond (.eq) 28, 3) := by decide +kernel
theorem d33 : decode yB 33 = .ok (.aload_n 1, 1) := by decide +kernel
theorem d34 : decode yB 34 = .ok (.iload_n 2, 1) := by decide +kernel
theorem d35 : decode yB 35 = .ok (.iload_n 3, 1) := by decide +kernel
theorem d36 : decode yB 36 = .ok (.invokestatic 177, 3) := by decide +kernel
theorem d39 : decode yB 39 = .ok (.astore 5, 2) := by decide +kernel
theorem d41 : decode yB 41 = .ok (.aload_n 0, 1) := by decide +kernel
theorem d42 : decode yB 42 = .ok (.aload 5, 2) := by decide +kernel
theorem d44 : decode yB 44 = .ok (.iload_n 3, 1) := by decide +kernel
theorem d45 : decode yB 45 = .ok (.invokestatic 47, 3) := by decide +kernel
theorem d48 : decode yB 48 = .ok (.putfield 15, 3) := by decide +kernel
theorem d51 : decode yB 51 = .ok (.aload_n 0, 1) := by decide +kernel
theorem d52 : decode yB 52 = .ok (.aload 5, 2) := by decide +kernel
theorem d54 : decode yB 54 = .ok (.putfield 9, 3) := by decide +kernel
theorem d57 : decode yB 57 = .ok (.return_, 1) := by decide +kernel
def site : List Cond := [.fieldLink "java/lang/String" 38 "java/lang/String" "COMPACT_STRINGS" "Z", Cmp3.tab, CodL.tab, .laysFinal "java/lang/String" "java/lang/String" "value" "[B", .fieldLink "java/lang/String" 9 "java/lang/String" "value" "[B", .laysFinal "java/lang/String" "java/lang/String" "coder" "B", .fieldLink "java/lang/String" 15 "java/lang/String" "coder" "B"] ++ objW "java/lang/String" 1 ++ staticW "java/lang/String" 177 Cmp3.yN ++ staticW "java/lang/String" 47 CodL.yN
def tab : Cond := tabOf yN yB 6 none site
def P (a : Addr) (D : Cell) (fV fC : Field) (b : Addr) (A : Cell) (z : Int32) (o len : Nat) (args : Array Value) (s : State) : Prop := args = #[.ref a, .ref b, .int (Int32.ofNat o), .int (Int32.ofNat len), .null] ∧ Blank "java/lang/String" a D s ∧ Found "java/lang/String" "value" "[B" fV s ∧ Found "java/lang/String" "coder" "B" fC s ∧ Ch b A s ∧ StaticIs s "java/lang/String" "COMPACT_STRINGS" "Z" (.int z) ∧ ¬ z = 0 ∧ 0 < len ∧ o + len ≤ A.slots.size ∧ len ≤ 536870912 ∧ ∀ i, i < len → ¬ 255 < cv A (o + i)
def E (a : Addr) (D : Cell) (fV fC : Field) (A : Cell) (o len : Nat) (r : Option Value) (s u : State) : Prop := Got a D fV fC A o len r s u
/-- len > 0, no char of the range above 255: a Latin-1 String of their low bytes -/
theorem law (l : Launch) (a : Addr) (D : Cell) (fV fC : Field) (b : Addr) (A : Cell) (z : Int32) (o len : Nat) : Law l yN 5 4 2 35 yB 6 none site (P a D fV fC b A z o len) (E a D fV fC A o len) [⟨a, fC.slot⟩, ⟨a, fV.slot⟩] 1 len := by
  refine Law.of_walk (plainFor_of_name (by decide +kernel)) (by decide +kernel) (by decide +kernel) (by decide) (fun _ _ h => by rw [h.1]; rfl) (fun _ U U' hal hh h => ⟨h.1, h.2.1.mv hal hh, h.2.2.1.al hal, h.2.2.2.1.al hal, h.2.2.2.2.1.mv hal hh, h.2.2.2.2.2.1.there hal hh, h.2.2.2.2.2.2⟩) (fun r U U' V V' h1 hal h2 h => Got.mv r U U' V V' h1 hal h2 h) ?_
  intro p e s m args below meth c s₁ X0 hexec hbytes hml hret hlk hnm hown hh0 W hP
  obtain ⟨rfl, hB, f1, f2, hA, s1, hz, l0, l1, l2, hp⟩ := hP
  have a31 := hA.1.2.2.2
  have c1 : Steps p.tables e below (s₁.setTop (entryFrame m #[.ref a, .ref b, .int (Int32.ofNat o), .int (Int32.ofNat len), .null] 6)) (s₁.setTop (mkF m 0 #[.val (.ref a), .val (.ref b), .val (.int (Int32.ofNat o)), .val (.int (Int32.ofNat len)), .val .null, .unset] [])) := entry rfl
  have c2 : Steps p.tables e below (s₁.setTop (entryFrame m #[.ref a, .ref b, .int (Int32.ofNat o), .int (Int32.ofNat len), .null] 6)) (s₁.setTop (mkF m 1 #[.val (.ref a), .val (.ref b), .val (.int (Int32.ofNat o)), .val (.int (Int32.ofNat len)), .val .null, .unset] [.ref a])) := c1.trans (by
    refine XS.aloadN X0.here hexec rfl (hb hbytes d0) rfl rfl ?_
    exact Steps.refl _)
  obtain ⟨T3, X3, q3, st3⟩ := X0.oinit hexec hown (wks W (objW "java/lang/String" 1)) (g := (mkF m 1 #[.val (.ref a), .val (.ref b), .val (.int (Int32.ofNat o)), .val (.int (Int32.ofNat len)), .val .null, .unset] [.ref a])) rfl (by rw [hml]; rfl) (rest := []) rfl (hb hbytes d1) (W := 0) (by show 2 * 0 + 0 ≤ _; decide) (Nat.le_of_ble_eq_true rfl) (Nat.le_of_ble_eq_true rfl)
  have hh3 := q3.trans hh0
  have c4 : Steps p.tables e below (s₁.setTop (entryFrame m #[.ref a, .ref b, .int (Int32.ofNat o), .int (Int32.ofNat len), .null] 6)) (T3.setTop (mkF m 27 #[.val (.ref a), .val (.ref b), .val (.int (Int32.ofNat o)), .val (.int (Int32.ofNat len)), .val .null, .unset] [])) := (c2.trans (st3 _ (Steps.refl _))).trans (by
    refine XS.iloadN X3.here hexec rfl (hb hbytes d4) rfl ?_
    refine XS.ifYes X3.here hexec rfl (pc0 := 5) rfl (hb hbytes d5) rfl (i0_ne_t (nz32 (by omega) l0)) (by decide) rfl ?_
    exact Steps.refl _)
  obtain ⟨T5, X5, q5, st5⟩ := X3.sget hexec hown (wk W (.fieldLink "java/lang/String" 38 "java/lang/String" "COMPACT_STRINGS" "Z")) s1 (fun _ _ h => by rw [hh3]; exact h) (g := (mkF m 27 #[.val (.ref a), .val (.ref b), .val (.int (Int32.ofNat o)), .val (.int (Int32.ofNat len)), .val .null, .unset] [])) rfl (hb hbytes d27)
  have hh5 := q5.trans hh3
  have c6 : Steps p.tables e below (s₁.setTop (entryFrame m #[.ref a, .ref b, .int (Int32.ofNat o), .int (Int32.ofNat len), .null] 6)) (T5.setTop (mkF m 30 #[.val (.ref a), .val (.ref b), .val (.int (Int32.ofNat o)), .val (.int (Int32.ofNat len)), .val .null, .unset] [.int z])) := c4.trans (st5 _ (Steps.refl _))
  have c7 : Steps p.tables e below (s₁.setTop (entryFrame m #[.ref a, .ref b, .int (Int32.ofNat o), .int (Int32.ofNat len), .null] 6)) (T5.setTop (mkF m 36 #[.val (.ref a), .val (.ref b), .val (.int (Int32.ofNat o)), .val (.int (Int32.ofNat len)), .val .null, .unset] [.int (Int32.ofNat len), .int (Int32.ofNat o), .ref b])) := c6.trans (by
    refine XS.ifNo X5.here hexec rfl (hb hbytes d30) rfl (i0_eq_f hz) ?_
    refine XS.aloadN X5.here hexec rfl (hb hbytes d33) rfl rfl ?_
    refine XS.iloadN X5.here hexec rfl (hb hbytes d34) rfl ?_
    refine XS.iloadN X5.here hexec rfl (hb hbytes d35) rfl ?_
    exact Steps.refl _)
  obtain ⟨v8, T8, X8, E8, g8⟩ := X5.callS hexec (Cmp3.law l b A o len) hown (wks W (staticW "java/lang/String" 177 Cmp3.yN)) (wk W Cmp3.tab) (W := 0) (Nat.le_of_ble_eq_true rfl) (Nat.le_of_ble_eq_true rfl) (Nat.le_refl _) (by show 0 + len ≤ len; omega) (g := (mkF m 36 #[.val (.ref a), .val (.ref b), .val (.int (Int32.ofNat o)), .val (.int (Int32.ofNat len)), .val .null, .unset] [.int (Int32.ofNat len), .int (Int32.ofNat o), .ref b])) rfl (by rw [hml]; rfl) c7 (argsL := [.ref b, .int (Int32.ofNat o), .int (Int32.ofNat len)]) (rest := []) rfl rfl (by show 2 * 0 + 0 ≤ _; decide) (hb hbytes d36) (⟨rfl, hA.mv X5.warmed.alike hh5, l1, l2, hp⟩)
  obtain ⟨e8, z8⟩ := E8
  obtain ⟨rfl, N, n1, n2, n3, n4, n5, n6⟩ := NewArr.mv _ T5 s _ _ hh5.symm (Vm.Alike.refl _) rfl e8
  rw [hh5] at z8
  have hB1 := hB.keep X8.warmed.alike (n6 _ _ hB.1)
  have hne : s.heap.size ≠ a := (Nat.ne_of_lt (Array.getElem?_eq_some_iff.mp hB.1).1).symm
  have c9 : Steps p.tables e below (s₁.setTop (entryFrame m #[.ref a, .ref b, .int (Int32.ofNat o), .int (Int32.ofNat len), .null] 6)) (T8.setTop (mkF m 39 #[.val (.ref a), .val (.ref b), .val (.int (Int32.ofNat o)), .val (.int (Int32.ofNat len)), .val .null, .unset] [.ref s.heap.size])) := g8
  have c10 : Steps p.tables e below (s₁.setTop (entryFrame m #[.ref a, .ref b, .int (Int32.ofNat o), .int (Int32.ofNat len), .null] 6)) (T8.setTop (mkF m 45 #[.val (.ref a), .val (.ref b), .val (.int (Int32.ofNat o)), .val (.int (Int32.ofNat len)), .val .null, .val (.ref s.heap.size)] [.int (Int32.ofNat N.slots.size), .ref s.heap.size, .ref a])) := by
    have hc : Steps p.tables e below (s₁.setTop (entryFrame m #[.ref a, .ref b, .int (Int32.ofNat o), .int (Int32.ofNat len), .null] 6)) (T8.setTop (mkF m 45 #[.val (.ref a), .val (.ref b), .val (.int (Int32.ofNat o)), .val (.int (Int32.ofNat len)), .val .null, .val (.ref s.heap.size)] [.int (Int32.ofNat len), .ref s.heap.size, .ref a])) := c9.trans (by
      refine XS.astore X8.here hexec rfl (hb hbytes d39) rfl rfl rfl ?_
      refine XS.aloadN X8.here hexec rfl (hb hbytes d41) rfl rfl ?_
      refine XS.aload X8.here hexec rfl (hb hbytes d42) rfl rfl ?_
      refine XS.iloadN X8.here hexec rfl (hb hbytes d44) rfl ?_
      exact Steps.refl _)
    rw [n4]; exact hc
  obtain ⟨v11, T11, X11, E11, g11⟩ := X8.callS hexec (CodL.law l s.heap.size N) hown (wks W (staticW "java/lang/String" 47 CodL.yN)) (wk W CodL.tab) (W := 1) (Nat.le_of_ble_eq_true rfl) (Nat.le_of_ble_eq_true rfl) (Nat.le_refl _) (by show 0 + len + 0 ≤ len; omega) (g := (mkF m 45 #[.val (.ref a), .val (.ref b), .val (.int (Int32.ofNat o)), .val (.int (Int32.ofNat len)), .val .null, .val (.ref s.heap.size)] [.int (Int32.ofNat N.slots.size), .ref s.heap.size, .ref a])) rfl (by rw [hml]; rfl) c10 (argsL := [.ref s.heap.size, .int (Int32.ofNat N.slots.size)]) (rest := [.ref a]) rfl rfl (by show 2 * 0 + (1 + 0) ≤ _; decide) (hb hbytes d45) (⟨rfl, n1⟩)
  obtain ⟨rfl, q11⟩ := E11
  have hB11 := hB1.mv (X8.warmed.alike.symm.trans X11.warmed.alike) q11
  have c12 : Steps p.tables e below (s₁.setTop (entryFrame m #[.ref a, .ref b, .int (Int32.ofNat o), .int (Int32.ofNat len), .null] 6)) (T11.setTop (mkF m 48 #[.val (.ref a), .val (.ref b), .val (.int (Int32.ofNat o)), .val (.int (Int32.ofNat len)), .val .null, .val (.ref s.heap.size)] [.int 0, .ref a])) := g11
  obtain ⟨T13, X13, p13, bl13, sl13, st13⟩ := X11.finit hexec hown (wk W (.fieldLink "java/lang/String" 15 "java/lang/String" "coder" "B")) (Or.inr ⟨_, (wk W (.laysFinal "java/lang/String" "java/lang/String" "coder" "B"))⟩) (Or.inl ⟨rfl, hnm⟩) f2 (Or.inl rfl) hB11 (t := .byte) (by decide +kernel) rfl (g := (mkF m 48 #[.val (.ref a), .val (.ref b), .val (.int (Int32.ofNat o)), .val (.int (Int32.ofNat len)), .val .null, .val (.ref s.heap.size)] [.int 0, .ref a])) rfl (rest := []) rfl (hb hbytes d48)
  have c14 : Steps p.tables e below (s₁.setTop (entryFrame m #[.ref a, .ref b, .int (Int32.ofNat o), .int (Int32.ofNat len), .null] 6)) (T13.setTop (mkF m 54 #[.val (.ref a), .val (.ref b), .val (.int (Int32.ofNat o)), .val (.int (Int32.ofNat len)), .val .null, .val (.ref s.heap.size)] [.ref s.heap.size, .ref a])) := (c12.trans (st13 _ (Steps.refl _))).trans (by
    refine XS.aloadN X13.here hexec rfl (hb hbytes d51) rfl rfl ?_
    refine XS.aload X13.here hexec rfl (hb hbytes d52) rfl rfl ?_
    exact Steps.refl _)
  obtain ⟨T15, X15, p15, bl15, sl15, st15⟩ := X13.finit hexec hown (wk W (.fieldLink "java/lang/String" 9 "java/lang/String" "value" "[B")) (Or.inr ⟨_, (wk W (.laysFinal "java/lang/String" "java/lang/String" "value" "[B"))⟩) (Or.inl ⟨rfl, hnm⟩) f1 (Or.inl rfl) bl13 (t := (.array .byte)) (by decide +kernel) rfl (g := (mkF m 54 #[.val (.ref a), .val (.ref b), .val (.int (Int32.ofNat o)), .val (.int (Int32.ofNat len)), .val .null, .val (.ref s.heap.size)] [.ref s.heap.size, .ref a])) rfl (rest := []) rfl (hb hbytes d54)
  have c16 : Steps p.tables e below (s₁.setTop (entryFrame m #[.ref a, .ref b, .int (Int32.ofNat o), .int (Int32.ofNat len), .null] 6)) (T15.setTop (mkF m 57 #[.val (.ref a), .val (.ref b), .val (.int (Int32.ofNat o)), .val (.int (Int32.ofNat len)), .val .null, .val (.ref s.heap.size)] [])) := c14.trans (st15 _ (Steps.refl _))
  have ap := apart (Or.inr ⟨_, (wk W (.laysFinal "java/lang/String" "java/lang/String" "value" "[B"))⟩) (Or.inr ⟨_, (wk W (.laysFinal "java/lang/String" "java/lang/String" "coder" "B"))⟩) f1 f2 (t₁ := .array .byte) (t₂ := .byte) (by decide +kernel) (by decide +kernel) (by decide)
  have al := X8.warmed.alike.symm.trans X15.warmed.alike
  have n7 : T11.heap[s.heap.size]? = some N := by rw [q11]; exact n1.1
  exact ⟨T15, none, _, _, _, X15, by simp, rfl, by omega, (fun _ => rfl), ⟨rfl, _, N, bl15, ((Same.refl D _).set _ (by simp)).set _ (by simp), sl15, (Cell.slots_setSlot_ne _ ap).trans sl13, n1.keep al (p15.other hne (p13.other hne n7)), n2, by rw [al.findClass]; exact n3, n4, n5, fun y c h1 h2 => p15.other h1 (p13.other h1 (by rw [q11]; exact n6 y c h2)), by rw [p15.2.2, p13.2.2, q11]; exact z8⟩, fun fs hl => c16.trans (X15.returnOut hexec hret (hb hbytes d57) hl)⟩
end New4
namespace New1
def yN : MethodName := ⟨"java/lang/String", "<init>", "([C)V"⟩
abbrev yB : ByteArray := jdk_42_method_3_code
theorem d0 : decode yB 0 = .ok (.aload_n 0, 1) := by decide +kernel
theorem d1 : decode yB 1 = .ok (.aload_n 1, 1) := by decide +kernel
theorem d2 : decode yB 2 = .ok (.iconst 0, 1) := by decide +kernel
theorem d3 : decode yB 3 = .ok (.aload_n 1, 1) := by decide +kernel
theorem d4 : decode yB 4 = .ok (.arraylength, 1) := by decide +kernel
theorem d5 : decode yB 5 = .ok (.aconst_null, 1) := by decide +kernel
theorem d6 : decode yB 6 = .ok (.invokespecial 27, 3) := by decide +kernel
theorem d9 : decode yB 9 = .ok (.return_, 1) := by decide +kernel
def site : List Cond := [New4.tab] ++ initW "java/lang/String" 27 New4.yN
def tab : Cond := tabOf yN yB 2 none site
def P (a : Addr) (D : Cell) (fV fC : Field) (b : Addr) (A : Cell) (z : Int32) (args : Array Value) (s : State) : Prop := args = #[.ref a, .ref b] ∧ Blank "java/lang/String" a D s ∧ Found "java/lang/String" "value" "[B" fV s ∧ Found "java/lang/String" "coder" "B" fC s ∧ Ch b A s ∧ StaticIs s "java/lang/String" "COMPACT_STRINGS" "Z" (.int z) ∧ ¬ z = 0 ∧ 0 < A.slots.size ∧ A.slots.size ≤ 536870912 ∧ ∀ i, i < A.slots.size → ¬ 255 < cv A i
def E (a : Addr) (D : Cell) (fV fC : Field) (A : Cell) (r : Option Value) (s u : State) : Prop := Got a D fV fC A 0 A.slots.size r s u
/-- new String(chars), not empty, no char above 255: a Latin-1 String of their low bytes -/
theorem law (l : Launch) (a : Addr) (D : Cell) (fV fC : Field) (b : Addr) (A : Cell) (z : Int32) : Law l yN 2 1 3 52 yB 2 none site (P a D fV fC b A z) (E a D fV fC A) [⟨a, fC.slot⟩, ⟨a, fV.slot⟩] 1 A.slots.size := by
  refine Law.of_walk (plainFor_of_name (by decide +kernel)) (by decide +kernel) (by decide +kernel) (by decide) (fun _ _ h => by rw [h.1]; rfl) (fun _ U U' hal hh h => ⟨h.1, h.2.1.mv hal hh, h.2.2.1.al hal, h.2.2.2.1.al hal, h.2.2.2.2.1.mv hal hh, h.2.2.2.2.2.1.there hal hh, h.2.2.2.2.2.2⟩) (fun r U U' V V' h1 hal h2 h => Got.mv r U U' V V' h1 hal h2 h) ?_
  intro p e s m args below meth c s₁ X0 hexec hbytes hml hret hlk hnm hown hh0 W hP
  obtain ⟨rfl, hB, f1, f2, hA, s1, hz, l0, l2, hp⟩ := hP
  have c1 : Steps p.tables e below (s₁.setTop (entryFrame m #[.ref a, .ref b] 2)) (s₁.setTop (mkF m 0 #[.val (.ref a), .val (.ref b)] [])) := entry rfl
  have c2 : Steps p.tables e below (s₁.setTop (entryFrame m #[.ref a, .ref b] 2)) (s₁.setTop (mkF m 6 #[.val (.ref a), .val (.ref b)] [.null, .int (Int32.ofNat A.slots.size), .int 0, .ref b, .ref a])) := c1.trans (by
    refine XS.aloadN X0.here hexec rfl (hb hbytes d0) rfl rfl ?_
    refine XS.aloadN X0.here hexec rfl (hb hbytes d1) rfl rfl ?_
    refine iconstV X0.here hexec rfl 0 (hb hbytes d2) (by decide) ?_
    refine XS.aloadN X0.here hexec rfl (hb hbytes d3) rfl rfl ?_
    refine X0.alen hexec (hA.1.mv X0.warmed.alike hh0) rfl rfl (hb hbytes d4) ?_
    refine XS.aconstNull X0.here hexec rfl (hb hbytes d5) ?_
    exact Steps.refl _)
  obtain ⟨v3, T3, X3, E3, g3⟩ := X0.callN hexec (New4.law l a D fV fC b A z 0 A.slots.size) rfl hown (wks W (initW "java/lang/String" 27 New4.yN)) (W New4.tab (by simp only [site, List.mem_cons, List.mem_append, true_or, or_true])) (W := 0) (Nat.le_of_ble_eq_true rfl) (Nat.le_of_ble_eq_true rfl) (Nat.le_refl _) (by show 0 + A.slots.size ≤ A.slots.size; omega) (g := (mkF m 6 #[.val (.ref a), .val (.ref b)] [.null, .int (Int32.ofNat A.slots.size), .int (Int32.ofNat 0), .ref b, .ref a])) rfl (by rw [hml]; rfl) c2 (argsL := [.ref b, .int (Int32.ofNat 0), .int (Int32.ofNat A.slots.size), .null]) (rest := []) rfl rfl (by show 2 * 0 + 0 ≤ _; decide) (hb hbytes d6) (⟨rfl, hB.mv X0.warmed.alike hh0, f1.al X0.warmed.alike, f2.al X0.warmed.alike, hA.mv X0.warmed.alike hh0, s1.there X0.warmed.alike hh0, hz, l0, by omega, l2, fun i hi => by rw [Nat.zero_add]; exact hp i hi⟩)
  have e0 := Got.mv _ s₁ s _ _ hh0.symm (Vm.Alike.refl _) rfl E3
  obtain rfl := e0.1
  have c4 : Steps p.tables e below (s₁.setTop (entryFrame m #[.ref a, .ref b] 2)) (T3.setTop (mkF m 9 #[.val (.ref a), .val (.ref b)] [])) := g3
  exact ⟨T3, none, _, _, _, X3, by simp, rfl, by omega, (fun _ => rfl), e0, fun fs hl => c4.trans (X3.returnOut hexec hret (hb hbytes d9) hl)⟩
theorem pays {l : Launch} {R : Room} {p : Program} {e : Env} {below : List Frame} {s : State} {sargs : Array Value} {len W : Nat} (a : Addr) (D : Cell) (fV fC : Field) (b : Addr) (A : Cell) (z : Int32) (htab : tab.before sargs s = true) (hfr : 4 ≤ R.frames) (hlo : W + 65 ≤ R.locals) :
    Back l R p e below s sargs yN len W (fun A₁ a₁ => A₁.cells + 1 ≤ R.cells ∧ A₁.slots + A.slots.size ≤ R.slots ∧ P a D fV fC b A z a₁ A₁.U) (fun A₁ _ v₁ B₁ => E a D fV fC A v₁ A₁.U B₁.U ∧ B₁.locs = A₁.locs ++ [⟨a, fC.slot⟩, ⟨a, fV.slot⟩] ∧ B₁.cells = A₁.cells + 1 ∧ B₁.slots = A₁.slots + A.slots.size) :=
  (law l a D fV fC b A z).pays htab hfr (by omega)
end New1
end StrChars
namespace StrChars.Road
open Jvm Sem ClassFile Op Lib Jvm.Stand Jvm.Free Jvm.Free.XT
open Jvm.Lib.Cold (StaticIs)
abbrev ST : String := "java/lang/String"
/-- every table word that New1's law asks, flat -/
abbrev words : List Jvm.Cond := [.code New1.yN New1.yB 2 none, .initialized ST, .methodLink ST 27 New4.yN, .instanceMethod New4.yN,
  .code New4.yN New4.yB 6 none, .fieldLink ST 38 ST "COMPACT_STRINGS" "Z", .laysFinal ST ST "value" "[B", .fieldLink ST 9 ST "value" "[B", .laysFinal ST ST "coder" "B", .fieldLink ST 15 ST "coder" "B",
  .methodLink ST 1 Lib.objectInit, .instanceMethod Lib.objectInit, .code Lib.objectInit ⟨#[0xb1]⟩ 1 none, .methodLink ST 177 Cmp3.yN, .static Cmp3.yN, .methodLink ST 47 CodL.yN, .static CodL.yN,
  .code Cmp3.yN Cmp3.yB 6 (some (.array .byte)), .initialized U16, .arrayClass .byte, .methodLink U16 115 Cmp5.yN, .static Cmp5.yN, .code Cmp5.yN Cmp5.yB 7 (some .int), .code CodL.yN CodL.yB 2 (some .byte)]
theorem tab_of {a : Array Value} {s : State} (h : ∀ w ∈ words, w.before a s = true) : New1.tab.before a s = true := by
  have h5 : Cmp5.tab.before a s = true := unparts (wk h (.code Cmp5.yN Cmp5.yB 7 (some .int))) (wks h (.initialized Cmp5.yN.cls :: Cmp5.site))
  have hc : CodL.tab.before a s = true := unparts (wk h (.code CodL.yN CodL.yB 2 (some .byte))) (wks h (.initialized CodL.yN.cls :: CodL.site))
  have q5 : ∀ w ∈ Cmp5.tab :: words, w.before a s = true := fun w hw => (List.mem_cons.mp hw).elim (fun e => e ▸ h5) (h w)
  have h3 : Cmp3.tab.before a s = true := unparts (wk q5 (.code Cmp3.yN Cmp3.yB 6 (some (.array .byte)))) (wks q5 (.initialized Cmp3.yN.cls :: Cmp3.site))
  have q3 : ∀ w ∈ Cmp3.tab :: CodL.tab :: words, w.before a s = true := fun w hw => (List.mem_cons.mp hw).elim (fun e => e ▸ h3) fun hw => (List.mem_cons.mp hw).elim (fun e => e ▸ hc) (h w)
  have h4 : New4.tab.before a s = true := unparts (wk q3 (.code New4.yN New4.yB 6 none)) (wks q3 (.initialized New4.yN.cls :: New4.site))
  have q4 : ∀ w ∈ New4.tab :: words, w.before a s = true := fun w hw => (List.mem_cons.mp hw).elim (fun e => e ▸ h4) (h w)
  exact unparts (wk q4 (.code New1.yN New1.yB 2 none)) (wks q4 (.initialized New1.yN.cls :: New1.site))
/-- the words ride from the start Z to the walk's own state -/
theorem moved {Z s : State} {a0 args : Array Value} (hZ : Z.Warmed39 s.vm) (hw : ∀ d ∈ words, d.before a0 Z = true) : ∀ d ∈ words, d.before args s = true := fun d hd => by
  have q := hw d hd
  have t : ∀ d ∈ words, d = .arrayClass .byte ∨ (d.onTables && d.keepsFace) = true := by decide +kernel
  rcases t d hd with rfl | t
  · exact RoadKit.mvA hZ q
  · exact RoadKit.mv hZ q t
/-- WHAT COMES BACK, over the tables of the start Z: h the heap at the call, h' behind it -/
def Q (Z : State) (x : Addr) (A : Cell) (h : Heap) (v : Option Value) (h' : Heap) (L : List Loc) : Prop := v = none ∧ (∀ y ∈ L, y.base = x) ∧ RoadKit.Keep h h' [x] ∧ h'.size = h.size + 1 ∧ RoadKit.Exa Z h' x ST ∧ RoadKit.Fld Z h' x ST "value" "[B" (.ref h.size) ∧ RoadKit.Fld Z h' x ST "coder" "B" (.int 0) ∧
  (∃ V : Cell, RoadKit.Arr Z h' h.size V .byte ∧ V.vm = .none ∧ Z.vm.findClass "[B" = some V.cls ∧ V.slots.size = A.slots.size ∧ ∀ j, j < A.slots.size → V.slots[j]? = some (.int (lo8 (cv A j)))) ∧
  ∀ (O n d : String) (w : Value), RoadKit.Fld Z h x O n d w → RoadKit.slotOf Z O n d ≠ RoadKit.slotOf Z ST "value" "[B" → RoadKit.slotOf Z O n d ≠ RoadKit.slotOf Z ST "coder" "B" → RoadKit.Fld Z h' x O n d w
/-- **new String(chars) AT A CALL, IN THE ROAD'S FORM**: for specialBack behind newO: x the fresh String, b the char[] with the cell A -/
theorem back {p : Program} {l : Launch} {e : Env} {R : Room} {s : State} {args : Array Value} {below : List Frame} {len W : Nat} {Z : State} {a0 : Array Value} {h : Heap} (hZ : Z.Warmed39 s.vm) (hw : ∀ d ∈ words, d.before a0 Z = true) {kI : Nat} (wi : (Jvm.Cond.instantiable ST kI).before a0 Z = true)
    {x b : Addr} {A : Cell} {z : Int32} {v0 c0 : Value} (E : RoadKit.Exa Z h x ST) (V : RoadKit.Fld Z h x ST "value" "[B" v0) (C : RoadKit.Fld Z h x ST "coder" "B" c0) (K : RoadKit.Arr Z h b A .char) (hty : Typed .char A) (S : RoadKit.Sta Z h ST "COMPACT_STRINGS" "Z" (.int z)) (hz : ¬ z = 0)
    (l0 : 0 < A.slots.size) (l2 : A.slots.size ≤ 536870912) (hp : ∀ i, i < A.slots.size → ¬ 255 < cv A i) (hfr : 4 ≤ R.frames) (hlo : W + 65 ≤ R.locals) :
    Back l R p e below s args New1.yN len W (fun P a => a = #[.ref x, .ref b] ∧ P.U.heap = h ∧ P.cells + 1 ≤ R.cells ∧ P.slots + A.slots.size ≤ R.slots)
      (fun P _ v B => ∃ L, Q Z x A h v B.U.heap L ∧ B.locs = P.locs ++ L ∧ B.cells = P.cells + 1 ∧ B.slots = P.slots + A.slots.size) := by
  intro m meth c P g ig mk a X hg hsize hdg hW hn hp'
  obtain ⟨rfl, rfl, r1, r2⟩ := hp'
  have al : Z.vm.Alike P.U.vm := hZ.alike.trans X.warmed.alike
  obtain ⟨D, cfV, kV, iV, fV, hD, gV, stV, knV, obV, asV, slV⟩ := id V
  obtain ⟨D', cfC, kC, iC, fC, hD', gC, stC, -, -, asC, slC⟩ := id C
  cases hD.symm.trans hD'
  obtain ⟨D2, kD, e1, e2, e3, e4, e5⟩ := id E
  cases hD.symm.trans e1
  obtain ⟨c2, k2, i1, i2, i3, -⟩ := Cond.instantiable_spec wi
  cases e2.symm.trans i1
  cases e3.symm.trans i2
  obtain ⟨kU, u1, u2⟩ := al.2.2 _ _ e3
  have hB : Blank ST x D P.U := ⟨hD, ⟨knV, fun q hq => by rw [hq] at obV; cases obV⟩, by rw [al.findClass]; exact e2, kU, u1, by rw [u2]; exact i3, by rw [u2]; exact e5 i3⟩
  have F1 : Found ST "value" "[B" fV P.U := ⟨SBG.found_only al ⟨cfV, kV, iV, gV⟩, stV⟩
  have F2 : Found ST "coder" "B" fC P.U := ⟨SBG.found_only al ⟨cfC, kC, iC, gC⟩, stC⟩
  have hA : Ch b A P.U := ⟨⟨K.1, State.isArrayOf_alike al K.2.1, K.2.2, by omega⟩, hty⟩
  have hS : StaticIs P.U ST "COMPACT_STRINGS" "Z" (.int z) := by
    obtain ⟨cfS, iS, kS, fS, st, cS, t1, t2, t3, t4, t5, t6, t7⟩ := S
    exact StaticIs.there (s := { Z with heap := P.U.heap }) ⟨cfS, iS, kS, fS, st, cS, t1, t2, t3, t4, t5, (fun q => by rw [q] at t6; cases t6), t7⟩ al rfl
  obtain ⟨v, B, X', ⟨⟨hv, E', V', q1, q2, q3, q4, q5, q6, q7, q8, q9, q10, q11⟩, hl, hc, hs⟩, st⟩ := New1.pays x D fV fC b A z (tab_of (moved hZ hw)) hfr hlo m meth c P g ig mk _ X hg hsize hdg hW hn ⟨r1, r2, rfl, hB, F1, F2, hA, hS, hz, l0, l2, hp⟩
  have al' : Z.vm.Alike B.U.vm := hZ.alike.trans X'.warmed.alike
  have hsz : E'.slots.size = D.slots.size := by
    obtain ⟨-, -, -, kB, w1, w2, w3⟩ := q1
    obtain ⟨kB', y1, y2⟩ := al'.2.2 _ _ e3
    rw [q2.2.1] at w1
    cases w1.symm.trans y1
    rw [w3, e5 i3, y2]
  refine ⟨v, B, X', ⟨_, ⟨hv, ?_, ⟨by omega, fun y cy hy hn' => q10 y cy (by simpa using hn') hy, fun y cy hy => ?_⟩, q11, ⟨E', _, q1.1, by rw [q2.2.1]; exact e2, by rw [q2.2.1]; exact e3, by rw [q2.1]; exact obV, fun _ => by rw [hsz]; exact e5 i3⟩,
    ⟨E', cfV, kV, iV, fV, q1.1, gV, stV, by rw [q2.1]; exact knV, by rw [q2.1]; exact obV, by rw [q2.2.1]; exact asV, q3⟩, ⟨E', cfC, kC, iC, fC, q1.1, gC, stC, by rw [q2.1]; exact knV, by rw [q2.1]; exact obV, by rw [q2.2.1]; exact asC, q4⟩,
    ⟨V', ⟨q5.1, State.isArrayOf_alike al'.symm q5.2.1, q5.2.2.1⟩, q6, by rw [← al'.findClass]; exact q7, q8, fun j hj => by have := q9 j hj; rwa [Nat.zero_add] at this⟩, fun O n d w F n1 n2 => ?_⟩, hl, hc, hs⟩, st⟩
  · intro y hy
    simp only [List.mem_cons, List.not_mem_nil, or_false] at hy
    rcases hy with rfl | rfl <;> rfl
  · by_cases q : y = x
    · subst q
      cases hD.symm.trans hy
      exact ⟨E', q1.1, q2.2.1, q2.1, hsz⟩
    · exact ⟨cy, q10 y cy q hy, rfl, rfl, rfl⟩
  · obtain ⟨D3, cf, k, i, f, g1, g2, g3, g4, g5, g6, g7⟩ := F
    cases hD.symm.trans g1
    simp only [RoadKit.slotOf, g2, gV, gC, Option.map_some, Option.getD_some] at n1 n2
    exact ⟨E', cf, k, i, f, q1.1, g2, g3, by rw [q2.1]; exact g4, by rw [q2.1]; exact g5, by rw [q2.2.1]; exact g6, by rw [q2.2.2 f.slot (by simp [n1, n2])]; exact g7⟩
end StrChars.Road
namespace StrChars.Road
open Jvm Sem ClassFile Op Lib Jvm.Stand Jvm.Free Jvm.Free.XT
/-- WHAT COMES BACK, the byte[] as a list of values -/
def QA (Z : State) (x : Addr) (zn : Int32) (cs : List Int32) (h : Heap) (v : Option Value) (h' : Heap) (L : List Loc) : Prop := v = none ∧ (∀ y ∈ L, y.base = x) ∧ RoadKit.Keep h h' [x] ∧ h'.size = h.size + 1 ∧ RoadKit.Exa Z h' x ST ∧ RoadKit.Fld Z h' x ST "value" "[B" (.ref h.size) ∧ RoadKit.Fld Z h' x ST "coder" "B" (.int 0) ∧
  (∃ kb, Z.vm.findClass "[B" = some kb ∧ RoadKit.Arv Z h' h.size kb .byte zn (cs.map fun c => .int (lo8 c)) (.int 0)) ∧
  ∀ (O n d : String) (w : Value), RoadKit.Fld Z h x O n d w → RoadKit.slotOf Z O n d ≠ RoadKit.slotOf Z ST "value" "[B" → RoadKit.slotOf Z O n d ≠ RoadKit.slotOf Z ST "coder" "B" → RoadKit.Fld Z h' x O n d w
/-- **new String(chars) AT A CALL, THE ARRAYS AS LISTS**: the char[] at b holds cs, not empty, no char above 255 -/
theorem backArv {p : Program} {l : Launch} {e : Env} {R : Room} {s : State} {args : Array Value} {below : List Frame} {len W : Nat} {Z : State} {a0 : Array Value} {h : Heap} (hZ : Z.Warmed39 s.vm) (hw : ∀ d ∈ words, d.before a0 Z = true) {kI : Nat} (wi : (Jvm.Cond.instantiable ST kI).before a0 Z = true)
    {x b : Addr} {k : ClassId} {zn z : Int32} {cs : List Int32} {dv v0 c0 : Value} (E : RoadKit.Exa Z h x ST) (V : RoadKit.Fld Z h x ST "value" "[B" v0) (C : RoadKit.Fld Z h x ST "coder" "B" c0) (K : RoadKit.Arv Z h b k .char zn (cs.map Value.int) dv) (S : RoadKit.Sta Z h ST "COMPACT_STRINGS" "Z" (.int z)) (hz : ¬ z = 0)
    (hlen : zn.toNatClampNeg = cs.length) (h0 : 0 < cs.length) (hbig : cs.length ≤ 536870912) (hall : ∀ c ∈ cs, ¬ 255 < c) (hfr : 4 ≤ R.frames) (hlo : W + 65 ≤ R.locals) :
    Back l R p e below s args New1.yN len W (fun P a => a = #[.ref x, .ref b] ∧ P.U.heap = h ∧ P.cells + 1 ≤ R.cells ∧ P.slots + cs.length ≤ R.slots)
      (fun P _ v B => ∃ L, QA Z x zn cs h v B.U.heap L ∧ B.locs = P.locs ++ L ∧ B.cells = P.cells + 1 ∧ B.slots = P.slots + cs.length) := by
  obtain ⟨A, K1, K2, K3, K4, K5, K6⟩ := K
  have e : A.slots.size = cs.length := K3.trans hlen
  have hat : ∀ (i : Nat) (hi : i < cs.length), A.slots[i]? = some (.int cs[i]) := fun i hi => by rw [K5 i (by omega)]; simp [List.getD_eq_getElem?_getD, hi]
  have hcv : ∀ (i : Nat) (hi : i < cs.length), cv A i = cs[i] := fun i hi => by unfold cv; rw [hat i hi]
  have hty : Typed .char A := fun i v hv => by
    have hi : i < A.slots.size := (Array.getElem?_eq_some_iff.mp hv).1
    have q := K5 i hi
    rw [hv] at q
    rw [Option.some.inj q]
    exact K6 i hi
  refine Back.mono (back hZ hw wi E V C K1 hty S hz (by omega) (by omega) (fun i hi => by rw [hcv i (by omega)]; exact hall _ (List.getElem_mem _)) hfr hlo) (fun P a hp => ⟨hp.1, hp.2.1, hp.2.2.1, by rw [e]; exact hp.2.2.2⟩) (fun P a v B hp hq => ?_)
  obtain ⟨L, ⟨q1, q2, q3, q4, q5, q6, q7, ⟨V', v1, v2, v3, v4, v5⟩, q9⟩, hl, hc, hs⟩ := hq
  refine ⟨L, ⟨q1, q2, q3, q4, q5, q6, q7, ⟨V'.cls, v3, V', v1, rfl, by rw [v4, e, hlen], K4, fun i hi => ?_, fun i hi => ?_⟩, q9⟩, hl, hc, by rw [hs, e]⟩
  · have hi' : i < cs.length := by omega
    rw [v5 i (by omega), hcv i hi']; simp [List.getD_eq_getElem?_getD, hi']
  · have hi' : i < cs.length := by omega
    simp only [List.getD_eq_getElem?_getD, List.getElem?_map, List.getElem?_eq_getElem hi', Option.map_some, Option.getD_some]
    exact fits_lo8 _
end StrChars.Road
namespace StrChars.Road
open Jvm Sem ClassFile Op Lib Jvm.Stand Jvm.Free Jvm.Free.XT
/-- WHAT COMES BACK, in the writer's own shape -/
def QV (Z : State) (x : Addr) (N : Int32) (bs : List Int32) (h : Heap) (n0 : Nat) (v : Option Value) (h' : Heap) (L : List Loc) : Prop := v = none ∧ RoadKit.Fr n0 L ∧ RoadKit.Keep h h' [x] ∧ RoadKit.Exa Z h' x ST ∧ RoadKit.Fld Z h' x ST "coder" "B" (.int 0) ∧
  ∃ (t : Addr) (kb : ClassId), n0 ≤ t ∧ h.size ≤ t ∧ ¬ t = x ∧ RoadKit.Fld Z h' x ST "value" "[B" (.ref t) ∧ RoadKit.Arv Z h' t kb .byte N (bs.map Value.int) (.int 0)
/-- **new String(chars) AT A CALL, FOR THE WRITER**: a char[] of n known ints, each 0 to 255 -/
theorem backV {p : Program} {l : Launch} {e : Env} {R : Room} {s : State} {args : Array Value} {below : List Frame} {len W : Nat} {Z : State} {a0 : Array Value} {h : Heap} (hZ : Z.Warmed39 s.vm) (hw : ∀ d ∈ words, d.before a0 Z = true) {kI : Nat} (wi : (Jvm.Cond.instantiable ST kI).before a0 Z = true)
    {x b : Addr} {kC : ClassId} {cs bs : List Int32} {d v0 c0 : Value} {z N : Int32} {n n0 : Nat} (hx0 : n0 ≤ x) (hh0 : n0 ≤ h.size) (E : RoadKit.Exa Z h x ST) (V : RoadKit.Fld Z h x ST "value" "[B" v0) (C : RoadKit.Fld Z h x ST "coder" "B" c0) (K : RoadKit.Arv Z h b kC .char N (cs.map Value.int) d) (S : RoadKit.Sta Z h ST "COMPACT_STRINGS" "Z" (.int z)) (hz : ¬ z = 0)
    (hn : cs.length = n) (hN : N = Int32.ofNat n) (l0 : 0 < n) (l2 : n ≤ 4000) (hp : ∀ c ∈ cs, ¬ c < 0 ∧ ¬ (255 : Int32) < c) (hb : bs = cs.map (fun c => c.toInt8.toInt32)) (hfr : 4 ≤ R.frames) (hlo : W + 65 ≤ R.locals) :
    Back l R p e below s args (⟨"java/lang/String", "<init>", "([C)V"⟩ : MethodName) len W (fun P a => a = #[.ref x, .ref b] ∧ P.U.heap = h ∧ P.cells + 1 ≤ R.cells ∧ P.slots + n ≤ R.slots)
      (fun P _ v B => ∃ L, QV Z x N bs h n0 v B.U.heap L ∧ B.locs = P.locs ++ L ∧ B.cells = P.cells + 1 ∧ B.slots = P.slots + n) := by
  subst hn hN hb
  refine Back.mono (backArv hZ hw wi E V C K S hz (n32 (by omega)) l0 (by omega) (fun c hc => (hp c hc).2) hfr hlo) (fun P a hp => hp) (fun P a v B hp hq => ?_)
  obtain ⟨L, ⟨q1, q2, q3, q4, q5, q6, q7, ⟨kb, v1, v2⟩, q9⟩, hl, hc, hs⟩ := hq
  exact ⟨L, ⟨q1, fun y hy => by rw [q2 y hy]; exact hx0, q3, q5, q7, h.size, kb, hh0, Nat.le_refl _, Nat.ne_of_gt E.lt, q6, by rw [List.map_map]; exact v2⟩, hl, hc, hs⟩
end StrChars.Road
namespace StrChars
open Jvm Sem ClassFile Op Lib Jvm.Stand Jvm.Free.XT Jvm.Free.ALB Jvm.Free.JM Jvm.Free
open Jvm.Lib.Cold (StaticIs)
def hi8 (x : Int32) : Int32 := lo8 (x >>> ((8 : Int32) &&& 31))
/-- what StringUTF16.getChar makes of two bytes -/
def pairCh (u v : Int32) : Int32 := (((u &&& 255) <<< ((0 : Int32) &&& 31)) ||| ((v &&& 255) <<< ((8 : Int32) &&& 31))).toUInt32.toUInt16.toUInt32.toInt32
theorem shr0 (c : Int32) : c >>> ((0 : Int32) &&& 31) = c := by
  have e : ((0 : Int32) &&& 31) = 0 := by decide
  rw [e]
  apply Int32.toBitVec_inj.mp
  rw [Int32.toBitVec_shiftRight]
  have e1 : ((0 : Int32).toBitVec.smod 32) = 0#32 := by decide
  rw [e1, BitVec.sshiftRight_eq']
  exact BitVec.sshiftRight_zero
theorem lo8_and (x : Int32) : (lo8 x &&& 255).toBitVec.toNat = x.toBitVec.toNat % 256 := by
  have h : (lo8 x).toBitVec = (x.toBitVec.signExtend 8).signExtend 32 := by rw [lo8, Int8.toBitVec_toInt32, Int32.toBitVec_toInt8]
  rw [Int32.toBitVec_and, BitVec.toNat_and, h]
  have e : ((x.toBitVec.signExtend 8).signExtend 32).toNat % 256 = x.toBitVec.toNat % 256 := by
    rw [BitVec.toNat_signExtend]
    have hlt := x.toBitVec.isLt
    simp only [BitVec.toNat_setWidth, BitVec.toNat_signExtend]
    split <;> split <;> omega
  rw [← e]
  exact Nat.and_two_pow_sub_one_eq_mod _ 8
theorem pair_says {c : Int32} (h0 : ¬ c < 0) (h1 : ¬ 65535 < c) : pairCh (lo8 c) (hi8 c) = c := by
  rw [Int32.lt_iff_toInt_lt] at h0 h1
  have e0 : (0 : Int32).toInt = 0 := rfl
  have e1 : (65535 : Int32).toInt = 65535 := rfl
  have hc : c.toInt = c.toBitVec.toNat := by
    have := c.toBitVec.isLt
    have e : c.toInt = c.toBitVec.toInt := rfl
    rw [e] at h0 h1
    rw [e]
    rw [BitVec.toInt_eq_toNat_cond] at h0 h1 ⊢
    split at h0 <;> split <;> omega
  have hn : c.toBitVec.toNat < 65536 := by omega
  have a1 := lo8_and c
  have a2 : (hi8 c &&& 255).toBitVec.toNat = c.toBitVec.toNat / 256 := by
    rw [hi8, lo8_and]
    have e : ((8 : Int32) &&& 31) = 8 := by decide
    rw [e, Int32.toBitVec_shiftRight]
    have e2 : ((8 : Int32).toBitVec.smod 32) = 8#32 := by decide
    rw [e2, BitVec.sshiftRight_eq', BitVec.toNat_sshiftRight_of_msb_false (by rw [BitVec.msb_eq_false_iff_two_mul_lt]; omega)]
    show c.toBitVec.toNat >>> 8 % 256 = _
    rw [Nat.shiftRight_eq_div_pow]
    omega
  unfold pairCh
  apply Int32.toBitVec_inj.mp
  apply BitVec.eq_of_toNat_eq
  have f0 : ((0 : Int32) &&& 31) = 0 := by decide
  have f8 : ((8 : Int32) &&& 31) = 8 := by decide
  rw [f0, f8]
  have g : (((lo8 c &&& 255) <<< (0 : Int32)) ||| ((hi8 c &&& 255) <<< (8 : Int32))).toBitVec.toNat = c.toBitVec.toNat := by
    rw [Int32.toBitVec_or, Int32.toBitVec_shiftLeft, Int32.toBitVec_shiftLeft]
    have s0 : ((0 : Int32).toBitVec.smod 32) = 0#32 := by decide
    have s8 : ((8 : Int32).toBitVec.smod 32) = 8#32 := by decide
    rw [s0, s8, BitVec.toNat_or]
    simp only [BitVec.shiftLeft_eq', BitVec.toNat_shiftLeft, a1, a2]
    show (c.toBitVec.toNat % 256) <<< 0 % 2 ^ 32 ||| (c.toBitVec.toNat / 256) <<< 8 % 2 ^ 32 = _
    rw [Nat.shiftLeft_zero, Nat.mod_eq_of_lt (show c.toBitVec.toNat % 256 < 2 ^ 32 by omega), Nat.mod_eq_of_lt (show (c.toBitVec.toNat / 256) <<< 8 < 2 ^ 32 by rw [Nat.shiftLeft_eq]; omega), Nat.or_comm, ← Nat.shiftLeft_add_eq_or_of_lt (by omega), Nat.shiftLeft_eq]
    omega
  show BitVec.toNat (((((lo8 c &&& 255) <<< (0 : Int32)) ||| ((hi8 c &&& 255) <<< (8 : Int32))).toBitVec.setWidth 16).setWidth 32) = _
  rw [BitVec.toNat_setWidth, BitVec.toNat_setWidth, g]
  omega
end StrChars
namespace StrChars
open Jvm Sem ClassFile Op Lib Jvm.Stand Jvm.Free.XT Jvm.Free.ALB Jvm.Free.JM Jvm.Free
open Jvm.Lib.Cold (StaticIs)
theorem shr1 {n : Nat} (h : 2 * n < 2 ^ 31) : Int32.ofNat (2 * n) >>> ((1 : Int32) &&& 31) = Int32.ofNat n := by
  have e : ((1 : Int32) &&& 31) = 1 := by decide
  rw [e]
  apply Int32.toBitVec_inj.mp
  rw [Int32.toBitVec_shiftRight]
  have e1 : ((1 : Int32).toBitVec.smod 32) = 1#32 := by decide
  have hm : (BitVec.ofNat 32 (2 * n)).toNat = 2 * n := by rw [BitVec.toNat_ofNat, Nat.mod_eq_of_lt (by omega)]
  rw [e1, BitVec.sshiftRight_eq']
  apply BitVec.eq_of_toNat_eq
  show ((BitVec.ofNat 32 (2 * n)).sshiftRight 1).toNat = (BitVec.ofNat 32 n).toNat
  rw [BitVec.toNat_sshiftRight_of_msb_false (by rw [BitVec.msb_eq_false_iff_two_mul_lt, hm]; omega), hm, BitVec.toNat_ofNat, Nat.shiftRight_eq_div_pow]
  omega
theorem narrow_ch {c : Int32} (h0 : ¬ c < 0) (h1 : ¬ 65535 < c) : narrow .char (.int c) = .int c := by
  have q : narrow .char (.int (pairCh (lo8 c) (hi8 c))) = .int (pairCh (lo8 c) (hi8 c)) := narrow_c _
  rwa [pair_says h0 h1] at q
/-- the array's cell V codes the n chars f 0 .. f (n - 1) by the coder cd, as the JDK does: coder 1 just where some char is above 255 -/
def Cod (cd : Int32) (n : Nat) (f : Nat → Int32) (V : Cell) : Prop := (cd = 0 ∧ V.slots.size = n ∧ ∀ j, j < n → V.slots[j]? = some (.int (lo8 (f j))) ∧ ¬ 255 < f j) ∨ (cd = 1 ∧ V.slots.size = 2 * n ∧ (∀ j, j < n → V.slots[2 * j]? = some (.int (lo8 (f j))) ∧ V.slots[2 * j + 1]? = some (.int (hi8 (f j)))) ∧ ∃ j, j < n ∧ 255 < f j)
theorem Cod.cd {cd : Int32} {n : Nat} {f : Nat → Int32} {V : Cell} (h : Cod cd n f V) : cd = 0 ∨ cd = 1 := h.imp (fun q => q.1) fun q => q.1
theorem Cod.len {cd : Int32} {n : Nat} {f : Nat → Int32} {V : Cell} (h : Cod cd n f V) (hs : V.slots.size < 2 ^ 31) : Int32.ofNat V.slots.size >>> (cd &&& 31) = Int32.ofNat n := by
  rcases h with ⟨rfl, h, -⟩ | ⟨rfl, h, -⟩
  · rw [shr0, h]
  · rw [h, shr1 (by omega)]
/-- **x is a String of the n chars f 0 .. f (n - 1)**, Latin-1 or UTF-16; its array at t has the cell V -/
def Txt (x t : Addr) (V : Cell) (cd : Int32) (n : Nat) (f : Nat → Int32) (U : State) : Prop := Exact "java/lang/String" x U ∧ Has x "java/lang/String" "value" "[B" (.ref t) U ∧ Has x "java/lang/String" "coder" "B" (.int cd) U ∧ XT.Arr .byte t V U ∧ Cod cd n f V ∧ ∀ j, j < n → ¬ f j < 0 ∧ ¬ 65535 < f j
theorem Txt.mv {x t : Addr} {V : Cell} {cd : Int32} {n : Nat} {f : Nat → Int32} {U U' : State} (h : Txt x t V cd n f U) (hal : U.vm.Alike U'.vm) (hh : U'.heap = U.heap) : Txt x t V cd n f U' := ⟨h.1.mv hal hh, h.2.1.mv hal hh, h.2.2.1.mv hal hh, h.2.2.2.1.mv hal hh, h.2.2.2.2⟩
namespace Cdr
def yN : MethodName := ⟨"java/lang/String", "coder", "()B"⟩
abbrev yB : ByteArray := jdk_42_method_152_code
theorem d0 : decode yB 0 = .ok (.getstatic 38, 3) := by decide +kernel
theorem d3 : decode yB 3 = .ok (.ifCond (.eq) 10, 3) := by decide +kernel
theorem d6 : decode yB 6 = .ok (.aload_n 0, 1) := by decide +kernel
theorem d7 : decode yB 7 = .ok (.getfield 15, 3) := by decide +kernel
theorem d10 : decode yB 10 = .ok (.goto 4, 3) := by decide +kernel
theorem d14 : decode yB 14 = .ok (.ireturn, 1) := by decide +kernel
def site : List Cond := [.fieldLink "java/lang/String" 38 "java/lang/String" "COMPACT_STRINGS" "Z", .fieldLink "java/lang/String" 15 "java/lang/String" "coder" "B"]
def tab : Cond := tabOf yN yB 1 (some .byte) site
def P (x : Addr) (cd z : Int32) (args : Array Value) (s : State) : Prop := args = #[.ref x] ∧ Has x "java/lang/String" "coder" "B" (.int cd) s ∧ (cd = 0 ∨ cd = 1) ∧ StaticIs s "java/lang/String" "COMPACT_STRINGS" "Z" (.int z) ∧ ¬ z = 0
def E (cd : Int32) (r : Option Value) (s u : State) : Prop := XT.PureE (some (.int cd)) r s u
theorem law (l : Launch) (x : Addr) (cd z : Int32) : Law l yN 1 0 0 0 yB 1 (some .byte) site (P x cd z) (E cd) [] 0 0 := by
  refine Law.of_walk (plainFor_of_name (by decide +kernel)) (by decide +kernel) (by decide +kernel) (by decide) (fun _ _ h => by rw [h.1]; rfl) (fun _ U U' hal hh h => ⟨h.1, h.2.1.mv hal hh, h.2.2.1, h.2.2.2.1.there hal hh, h.2.2.2.2⟩) (fun r U U' V V' h1 hal h2 h => XT.PureE.mv r U U' V V' h1 hal h2 h) ?_
  intro p e s m args below meth c s₁ X0 hexec hbytes hml hret hlk hnm hown hh0 W hP
  obtain ⟨rfl, hx, hc, s1, hz⟩ := hP
  have c1 : Steps p.tables e below (s₁.setTop (entryFrame m #[.ref x] 1)) (s₁.setTop (mkF m 0 #[.val (.ref x)] [])) := entry rfl
  obtain ⟨T2, X2, q2, st2⟩ := X0.sget hexec hown (wk W (.fieldLink "java/lang/String" 38 "java/lang/String" "COMPACT_STRINGS" "Z")) s1 (fun _ _ h => by rw [hh0]; exact h) (g := (mkF m 0 #[.val (.ref x)] [])) rfl (hb hbytes d0)
  have hh2 := q2.trans hh0
  have c3 : Steps p.tables e below (s₁.setTop (entryFrame m #[.ref x] 1)) (T2.setTop (mkF m 7 #[.val (.ref x)] [.ref x])) := (c1.trans (st2 _ (Steps.refl _))).trans (by
    refine XS.ifNo X2.here hexec rfl (hb hbytes d3) rfl (i0_eq_f hz) ?_
    refine XS.aloadN X2.here hexec rfl (hb hbytes d6) rfl rfl ?_
    exact Steps.refl _)
  obtain ⟨T4, X4, q4, st4⟩ := X2.hget hexec hown (wk W (.fieldLink "java/lang/String" 15 "java/lang/String" "coder" "B")) (hx.mv X2.warmed.alike hh2) (g := (mkF m 7 #[.val (.ref x)] [.ref x])) rfl (rest := []) rfl (hb hbytes d7)
  have c5 : Steps p.tables e below (s₁.setTop (entryFrame m #[.ref x] 1)) (T4.setTop (mkF m 14 #[.val (.ref x)] [.int cd])) := (c3.trans (st4 _ (Steps.refl _))).trans (by
    refine XS.goto X4.here hexec rfl (pc0 := 10) rfl (hb hbytes d10) (by decide) rfl ?_
    exact Steps.refl _)
  exact ⟨T4, some (.int cd), _, _, _, X4, rfl, rfl, rfl, (fun h => by cases h), ⟨rfl, q4.trans hh2⟩, fun fs hl => c5.trans (X4.ireturnOut hexec hret (by rcases hc with rfl | rfl <;> rfl) (Or.inr (Or.inr (Or.inl rfl))) (hb hbytes d14) hl)⟩
end Cdr
namespace Len
def yN : MethodName := ⟨"java/lang/String", "length", "()I"⟩
abbrev yB : ByteArray := jdk_42_method_54_code
theorem d0 : decode yB 0 = .ok (.aload_n 0, 1) := by decide +kernel
theorem d1 : decode yB 1 = .ok (.getfield 9, 3) := by decide +kernel
theorem d4 : decode yB 4 = .ok (.arraylength, 1) := by decide +kernel
theorem d5 : decode yB 5 = .ok (.aload_n 0, 1) := by decide +kernel
theorem d6 : decode yB 6 = .ok (.invokevirtual 335, 3) := by decide +kernel
theorem d9 : decode yB 9 = .ok (.ishr, 1) := by decide +kernel
theorem d10 : decode yB 10 = .ok (.ireturn, 1) := by decide +kernel
def site : List Cond := [.fieldLink "java/lang/String" 9 "java/lang/String" "value" "[B", Cdr.tab] ++ virtW "java/lang/String" 335 "java/lang/String" Cdr.yN Cdr.yN
def tab : Cond := tabOf yN yB 1 (some .int) site
def P (x t : Addr) (V : Cell) (cd : Int32) (n : Nat) (f : Nat → Int32) (z : Int32) (args : Array Value) (s : State) : Prop := args = #[.ref x] ∧ Txt x t V cd n f s ∧ StaticIs s "java/lang/String" "COMPACT_STRINGS" "Z" (.int z) ∧ ¬ z = 0
def E (n : Nat) (r : Option Value) (s u : State) : Prop := XT.PureE (some (.int (Int32.ofNat n))) r s u
/-- length() of a String of n chars, in either coding -/
theorem law (l : Launch) (x t : Addr) (V : Cell) (cd : Int32) (n : Nat) (f : Nat → Int32) (z : Int32) : Law l yN 1 0 1 13 yB 1 (some .int) site (P x t V cd n f z) (E n) [] 0 0 := by
  refine Law.of_walk (plainFor_of_name (by decide +kernel)) (by decide +kernel) (by decide +kernel) (by decide) (fun _ _ h => by rw [h.1]; rfl) (fun _ U U' hal hh h => ⟨h.1, h.2.1.mv hal hh, h.2.2.1.there hal hh, h.2.2.2⟩) (fun r U U' V V' h1 hal h2 h => XT.PureE.mv r U U' V V' h1 hal h2 h) ?_
  intro p e s m args below meth c s₁ X0 hexec hbytes hml hret hlk hnm hown hh0 W hP
  obtain ⟨rfl, hx, s1, hz⟩ := hP
  have v31 := hx.2.2.2.1.2.2.2
  have c1 : Steps p.tables e below (s₁.setTop (entryFrame m #[.ref x] 1)) (s₁.setTop (mkF m 1 #[.val (.ref x)] [.ref x])) := Steps.trans (entry rfl) (by
    show Steps p.tables e below (s₁.setTop (mkF m 0 #[.val (.ref x)] [])) _
    refine XS.aloadN X0.here hexec rfl (hb hbytes d0) rfl rfl ?_
    exact Steps.refl _)
  obtain ⟨T2, X2, q2, st2⟩ := X0.hget hexec hown (wk W (.fieldLink "java/lang/String" 9 "java/lang/String" "value" "[B")) (hx.mv X0.warmed.alike hh0).2.1 (g := (mkF m 1 #[.val (.ref x)] [.ref x])) rfl (rest := []) rfl (hb hbytes d1)
  have hh2 := q2.trans hh0
  have hx2 := hx.mv X2.warmed.alike hh2
  have c3 : Steps p.tables e below (s₁.setTop (entryFrame m #[.ref x] 1)) (T2.setTop (mkF m 6 #[.val (.ref x)] [.ref x, .int (Int32.ofNat V.slots.size)])) := (c1.trans (st2 _ (Steps.refl _))).trans (by
    refine X2.alen hexec hx2.2.2.2.1 rfl rfl (hb hbytes d4) ?_
    refine XS.aloadN X2.here hexec rfl (hb hbytes d5) rfl rfl ?_
    exact Steps.refl _)
  obtain ⟨v4, T4, X4, E4, g4⟩ := X2.callV hexec (Cdr.law l x cd z) hown (wks W (virtW "java/lang/String" 335 "java/lang/String" Cdr.yN Cdr.yN)) rfl (by decide) (wk W Cdr.tab) (W := 1) (Nat.le_of_ble_eq_true rfl) (Nat.le_of_ble_eq_true rfl) (Nat.le_refl _) (Nat.le_refl _) (hx2.1.fc X2.warmed.alike) hx2.1.is (g := (mkF m 6 #[.val (.ref x)] [.ref x, .int (Int32.ofNat V.slots.size)])) rfl (by rw [hml]; rfl) c3 (argsL := []) (rest := [.int (Int32.ofNat V.slots.size)]) rfl rfl (by show 2 * 0 + (1 + 0) ≤ _; decide) (hb hbytes d6) (⟨rfl, hx2.2.2.1, hx.2.2.2.2.1.cd, s1.there X2.warmed.alike hh2, hz⟩)
  obtain ⟨rfl, q4⟩ := E4
  have c5 : Steps p.tables e below (s₁.setTop (entryFrame m #[.ref x] 1)) (T4.setTop (mkF m 10 #[.val (.ref x)] [.int (Int32.ofNat V.slots.size >>> (cd &&& 31))])) := Steps.trans g4 (by
    refine ishr X4.here hexec rfl (hb hbytes d9) rfl ?_
    exact Steps.refl _)
  rw [hx.2.2.2.2.1.len v31] at c5
  exact ⟨T4, some (.int (Int32.ofNat n)), _, _, _, X4, rfl, rfl, rfl, (fun h => by cases h), ⟨rfl, q4.trans hh2⟩, fun fs hl => c5.trans (X4.ireturnOut hexec hret rfl (Or.inl rfl) (hb hbytes d10) hl)⟩
theorem pays {l : Launch} {R : Room} {p : Program} {e : Env} {below : List Frame} {s : State} {sargs : Array Value} {len W : Nat} (x t : Addr) (V : Cell) (cd : Int32) (n : Nat) (f : Nat → Int32) (z : Int32) (htab : tab.before sargs s = true) (hfr : 2 ≤ R.frames) (hlo : W + 25 ≤ R.locals) :
    Back l R p e below s sargs yN len W (fun A₁ a₁ => A₁.cells + 0 ≤ R.cells ∧ A₁.slots + 0 ≤ R.slots ∧ P x t V cd n f z a₁ A₁.U) (fun A₁ _ v₁ B₁ => E n v₁ A₁.U B₁.U ∧ B₁.locs = A₁.locs ++ [] ∧ B₁.cells = A₁.cells + 0 ∧ B₁.slots = A₁.slots + 0) :=
  (law l x t V cd n f z).pays htab hfr (by omega)
end Len
end StrChars
namespace StrChars.Road
open Jvm Sem ClassFile Op Lib Jvm.Stand Jvm.Free Jvm.Free.XT
open Jvm.Lib.Cold (StaticIs)
theorem consq {a : Array Value} {s : State} {c : Jvm.Cond} {L : List Jvm.Cond} (h0 : c.before a s = true) (h : ∀ w ∈ L, w.before a s = true) : ∀ w ∈ c :: L, w.before a s = true := fun w hw => (List.mem_cons.mp hw).elim (fun e => e ▸ h0) (h w)
/-- the words of String.length(), either coding -/
abbrev wordsLen : List Jvm.Cond := [.code Len.yN Len.yB 1 (some .int), .initialized ST, .fieldLink ST 9 ST "value" "[B", .fieldLink ST 38 ST "COMPACT_STRINGS" "Z", .fieldLink ST 15 ST "coder" "B", .code Cdr.yN Cdr.yB 1 (some .byte), .methodLink ST 335 Cdr.yN, .declares Cdr.yN, .selects ST Cdr.yN Cdr.yN, .instanceMethod Cdr.yN]
theorem tabLen_of {a : Array Value} {s : State} (h : ∀ w ∈ wordsLen, w.before a s = true) : Len.tab.before a s = true := by
  have hc : Cdr.tab.before a s = true := unparts (wk h (.code Cdr.yN Cdr.yB 1 (some .byte))) (wks h (.initialized Cdr.yN.cls :: Cdr.site))
  have q := consq hc h
  exact unparts (wk q (.code Len.yN Len.yB 1 (some .int))) (wks q (.initialized Len.yN.cls :: Len.site))
theorem movedLen {Z s : State} {a0 args : Array Value} (hZ : Z.Warmed39 s.vm) (hw : ∀ d ∈ wordsLen, d.before a0 Z = true) : ∀ d ∈ wordsLen, d.before args s = true := fun d hd => by
  have q := hw d hd
  have t : ∀ d ∈ wordsLen, d = .arrayClass .byte ∨ (d.onTables && d.keepsFace) = true := by decide +kernel
  rcases t d hd with rfl | t
  · exact RoadKit.mvA hZ q
  · exact RoadKit.mv hZ q t
/-- the bytes of the chars cs, low before high -/
def wideBytes : List Int32 → List Value
  | [] => []
  | c :: cs => .int (lo8 c) :: .int (hi8 c) :: wideBytes cs
theorem wide_lo (d : Value) : ∀ (cs : List Int32) (j : Nat), j < cs.length → (wideBytes cs).getD (2 * j) d = .int (lo8 (cs.getD j 0))
  | [], j, h => absurd h (Nat.not_lt_zero j)
  | c :: cs, 0, _ => rfl
  | c :: cs, j + 1, h => by
    have q := wide_lo d cs j (by simpa using h)
    rw [show 2 * (j + 1) = 2 * j + 1 + 1 from by omega]
    simpa [wideBytes] using q
theorem wide_hi (d : Value) : ∀ (cs : List Int32) (j : Nat), j < cs.length → (wideBytes cs).getD (2 * j + 1) d = .int (hi8 (cs.getD j 0))
  | [], j, h => absurd h (Nat.not_lt_zero j)
  | c :: cs, 0, _ => rfl
  | c :: cs, j + 1, h => by
    have q := wide_hi d cs j (by simpa using h)
    rw [show 2 * (j + 1) + 1 = 2 * j + 1 + 1 + 1 from by omega]
    simpa [wideBytes] using q
theorem low_at (d : Value) (cs : List Int32) (j : Nat) (h : j < cs.length) : (cs.map fun c => Value.int (lo8 c)).getD j d = .int (lo8 (cs.getD j 0)) := by
  simp [List.getD_eq_getElem?_getD, h]
/-- an array of N2 bytes vs codes the chars cs by the coder cd -/
def CodA (cs : List Int32) (cd N2 : Int32) (vs : List Value) : Prop := (cd = 0 ∧ N2 = Int32.ofNat cs.length ∧ vs = (cs.map fun c => Value.int (lo8 c)) ∧ ∀ c ∈ cs, ¬ 255 < c) ∨ (cd = 1 ∧ N2 = Int32.ofNat (2 * cs.length) ∧ vs = wideBytes cs ∧ ∃ c ∈ cs, 255 < c)
theorem CodA.cod {cs : List Int32} {cd N2 : Int32} {vs : List Value} {V : Cell} (h : CodA cs cd N2 vs) (hn : 2 * cs.length < 2 ^ 31) (hs : V.slots.size = N2.toNatClampNeg) (hv : RoadKit.Has V vs (.int 0)) : Cod cd cs.length (fun j => cs.getD j 0) V := by
  rcases h with ⟨rfl, rfl, rfl, h⟩ | ⟨rfl, rfl, rfl, c, hc, hw⟩
  · rw [n32 (by omega)] at hs
    exact Or.inl ⟨rfl, hs, fun j hj => ⟨by rw [hv j (by omega), low_at _ _ _ hj], by
      have e : cs.getD j 0 = cs[j] := by simp [List.getD_eq_getElem?_getD, hj]
      show ¬ 255 < cs.getD j 0
      rw [e]; exact h _ (List.getElem_mem _)⟩⟩
  · rw [n32 (by omega)] at hs
    obtain ⟨j, hj, rfl⟩ := List.getElem_of_mem hc
    exact Or.inr ⟨rfl, hs, fun j hj => ⟨by rw [hv _ (by omega), wide_lo _ _ _ hj], by rw [hv _ (by omega), wide_hi _ _ _ hj]⟩, j, hj, by
      have e : cs.getD j 0 = cs[j] := by simp [List.getD_eq_getElem?_getD, hj]
      show 255 < cs.getD j 0
      rw [e]; exact hw⟩
/-- an object of exactly java/lang/String, its two fields found: as the laws ask it -/
theorem strObj {Z U : State} {a0 : Array Value} {kI : Nat} (wi : (Jvm.Cond.instantiable ST kI).before a0 Z = true) (al : Z.vm.Alike U.vm) {x : Addr} {v0 c0 : Value} (E : RoadKit.Exa Z U.heap x ST) (V : RoadKit.Fld Z U.heap x ST "value" "[B" v0) (C : RoadKit.Fld Z U.heap x ST "coder" "B" c0) :
    ∃ (D : Cell) (fV fC : Field), Blank ST x D U ∧ Found ST "value" "[B" fV U ∧ Found ST "coder" "B" fC U ∧ D.slots[fV.slot]? = some v0 ∧ D.slots[fC.slot]? = some c0 ∧ RoadKit.slotOf Z ST "value" "[B" = fV.slot ∧ RoadKit.slotOf Z ST "coder" "B" = fC.slot := by
  obtain ⟨D, cfV, kV, iV, fV, hD, gV, stV, knV, obV, asV, slV⟩ := V
  obtain ⟨D', cfC, kC, iC, fC, hD', gC, stC, -, -, asC, slC⟩ := C
  cases hD.symm.trans hD'
  obtain ⟨D2, kD, e1, e2, e3, e4, e5⟩ := E
  cases hD.symm.trans e1
  obtain ⟨c2, k2, i1, i2, i3, -⟩ := Cond.instantiable_spec wi
  cases e2.symm.trans i1
  cases e3.symm.trans i2
  obtain ⟨kU, u1, u2⟩ := al.2.2 _ _ e3
  exact ⟨D, fV, fC, ⟨hD, ⟨knV, fun q hq => by rw [hq] at obV; cases obV⟩, by rw [al.findClass]; exact e2, kU, u1, by rw [u2]; exact i3, by rw [u2]; exact e5 i3⟩, ⟨SBG.found_only al ⟨cfV, kV, iV, gV⟩, stV⟩, ⟨SBG.found_only al ⟨cfC, kC, iC, gC⟩, stC⟩, slV, slC, by simp [RoadKit.slotOf, gV], by simp [RoadKit.slotOf, gC]⟩
theorem sta_is {Z U : State} (al : Z.vm.Alike U.vm) {C n d : String} {v : Value} (S : RoadKit.Sta Z U.heap C n d v) : StaticIs U C n d v := by
  obtain ⟨cfS, iS, kS, fS, st, cS, t1, t2, t3, t4, t5, t6, t7⟩ := S
  exact StaticIs.there (s := { Z with heap := U.heap }) ⟨cfS, iS, kS, fS, st, cS, t1, t2, t3, t4, t5, (fun q => by rw [q] at t6; cases t6), t7⟩ al rfl
/-- **length() OF SUCH A STRING** -/
theorem lenW {p : Program} {l : Launch} {e : Env} {R : Room} {s : State} {args : Array Value} {below : List Frame} {len W : Nat} {Z : State} {a0 : Array Value} {h : Heap} (hZ : Z.Warmed39 s.vm) (hw : ∀ d ∈ wordsLen, d.before a0 Z = true) {kI : Nat} (wi : (Jvm.Cond.instantiable ST kI).before a0 Z = true)
    {x t : Addr} {kb : ClassId} {cs : List Int32} {cd N2 z : Int32} {vs : List Value} (E : RoadKit.Exa Z h x ST) (V : RoadKit.Fld Z h x ST "value" "[B" (.ref t)) (C : RoadKit.Fld Z h x ST "coder" "B" (.int cd)) (K : RoadKit.Arv Z h t kb .byte N2 vs (.int 0)) (hc : CodA cs cd N2 vs) (hb : ∀ c ∈ cs, ¬ c < 0 ∧ ¬ (65535 : Int32) < c)
    (S : RoadKit.Sta Z h ST "COMPACT_STRINGS" "Z" (.int z)) (hz : ¬ z = 0) (l2 : cs.length ≤ 4000) (hfr : 2 ≤ R.frames) (hlo : W + 25 ≤ R.locals) :
    Back l R p e below s args (⟨"java/lang/String", "length", "()I"⟩ : MethodName) len W (fun P a => a = #[.ref x] ∧ P.U.heap = h ∧ P.cells + 0 ≤ R.cells ∧ P.slots + 0 ≤ R.slots)
      (fun P _ v B => ∃ L, (v = some (.int (Int32.ofNat cs.length)) ∧ L = [] ∧ B.U.heap = h) ∧ B.locs = P.locs ++ L ∧ B.cells = P.cells + 0 ∧ B.slots = P.slots + 0) := by
  obtain ⟨A, K1, K2, K3, K4, K5, K6⟩ := K
  have hcod := hc.cod (by omega) K3 K5
  intro m meth c P g ig mk a X hg hsize hdg hW hn hp'
  obtain ⟨rfl, rfl, r1, r2⟩ := hp'
  have al : Z.vm.Alike P.U.vm := hZ.alike.trans X.warmed.alike
  obtain ⟨D, fV, fC, hB, F1, F2, g1, g2, -, -⟩ := strObj wi al E V C
  have hx : Txt x t A cd cs.length (fun j => cs.getD j 0) P.U := ⟨⟨_, hB.2.2.1, D, hB.1, rfl, by cases q : D.vm <;> first | rfl | exact absurd q (hB.2.1.2 _)⟩, Has.of hB F1 g1, Has.of hB F2 g2, ⟨K1.1, State.isArrayOf_alike al K1.2.1, K1.2.2, by rcases hcod with ⟨-, q, -⟩ | ⟨-, q, -⟩ <;> omega⟩, hcod, fun j hj => by
    have e : cs.getD j 0 = cs[j] := by simp [List.getD_eq_getElem?_getD, hj]
    show ¬ cs.getD j 0 < 0 ∧ ¬ 65535 < cs.getD j 0
    rw [e]; exact hb _ (List.getElem_mem _)⟩
  obtain ⟨v, B, X', ⟨⟨hv, hh⟩, hl, hk, hs⟩, st⟩ := Len.pays x t A cd cs.length (fun j => cs.getD j 0) z (tabLen_of (movedLen hZ hw)) hfr hlo m meth c P g ig mk _ X hg hsize hdg hW hn ⟨r1, r2, rfl, hx, sta_is al S, hz⟩
  exact ⟨v, B, X', ⟨[], ⟨hv, rfl, hh⟩, hl, hk, hs⟩, st⟩
end StrChars.Road
namespace StrChars.Road
open Jvm Sem ClassFile Op Lib Jvm.Stand Jvm.Free Jvm.Free.XT
open Jvm.Lib.Cold (StaticIs)
/-- what backV says of its String, as the contracts of this text ask it: cs's low bytes, coder 0 -/
theorem codOf {cs : List Int32} {n : Nat} (hn : cs.length = n) (hb : ∀ c ∈ cs, ¬ 255 < c) : CodA cs 0 (Int32.ofNat n) ((cs.map lo8).map Value.int) := Or.inl ⟨rfl, by rw [hn], by simp [List.map_map, Function.comp_def], hb⟩
end StrChars.Road
end Jvm.Pilot.@@N@@

namespace Jvm.Pilot.@@N@@
open Jvm Jvm.ClassFile Sem Op Lib Jvm.Free Jvm.Stand Jvm.LawKit Jvm.RoadKit Bundle Jvm.Pilot.@@N@@.Jvm.D
def own_To (p : Program) (l : Launch) (e : Env) (R : Room) (s : State) (m : MethodId) (args : Array Value) (below : List Frame) (meth : Method) (c : Code) (locs : List Loc) (cells slots : Nat) (h : Heap) (T : State) (g g' : JFrame) : Prop :=
  ∃ T' : State, Stand p l e R s m args below meth c T' locs cells slots ∧ T'.heap = h ∧ ∀ tg, Steps p.tables e below (T'.setTop g') tg → Steps p.tables e below (T.setTop g) tg
theorem own_to {p : Program} {l : Launch} {e : Env} {R : Room} {s : State} {m : MethodId} {args : Array Value} {below : List Frame} {meth : Method} {c : Code} {T : State} {locs : List Loc} {cells slots : Nat} (X : Stand p l e R s m args below meth c T locs cells slots) {h : Heap} {g g' : JFrame}
    (H : own_To p l e R s m args below meth c locs cells slots h T g g') : ∃ T' : State, Stand p l e R s m args below meth c T' locs cells slots ∧ T'.heap = h ∧ ∀ tg, Steps p.tables e below (T'.setTop g') tg → Steps p.tables e below (T.setTop g) tg := H
def own_ToP (p : Program) (l : Launch) (e : Env) (R : Room) (s : State) (m : MethodId) (args : Array Value) (below : List Frame) (meth : Method) (c : Code) (locs : List Loc) (cells slots : Nat) (h : Heap) (T : State) (g : JFrame) (P : JFrame → Prop) : Prop :=
  ∃ (T' : State) (g' : JFrame), P g' ∧ Stand p l e R s m args below meth c T' locs cells slots ∧ T'.heap = h ∧ ∀ tg, Steps p.tables e below (T'.setTop g') tg → Steps p.tables e below (T.setTop g) tg
def own_ToK (p : Program) (l : Launch) (e : Env) (R : Room) (s : State) (m : MethodId) (args : Array Value) (below : List Frame) (meth : Method) (c : Code) (n0 : Nat) (cells slots : Nat) (T : State) (g : JFrame) (P : Heap → JFrame → Prop) : Prop :=
  ∃ (T' : State) (g' : JFrame) (L : List Loc), Stand p l e R s m args below meth c T' L cells slots ∧ Fr n0 L ∧ P T'.heap g' ∧ ∀ tg, Steps p.tables e below (T'.setTop g') tg → Steps p.tables e below (T.setTop g) tg
theorem own_wid {p : Program} {l : Launch} {e : Env} {R : Room} {s : State} {m : MethodId} {args : Array Value} {below : List Frame} {meth : Method} {c : Code} {T : State} {locs : List Loc} {cells slots cells' slots' : Nat} (X : Stand p l e R s m args below meth c T locs cells slots) (h1 : cells ≤ cells') (h2 : slots ≤ slots') : Stand p l e R s m args below meth c T locs cells' slots' := { X with same := X.same.mono h1 h2 }
theorem own_inc (i : Nat) : Int32.ofNat i + (1 : Int32) = Int32.ofNat (i + 1) := (Int32.ofNat_add i 1).symm
theorem own_toI {i : Nat} (h : i < 2147483648) : (Int32.ofNat i).toInt = (i : Int) := Int32.toInt_ofNat_of_lt h
theorem own_lt {i j : Nat} (h : i < j) (hj : j < 2147483648) : Int32.ofNat i < Int32.ofNat j := by
  rw [Int32.lt_iff_toInt_lt, own_toI (by omega), own_toI hj]; omega
theorem own_nlt {i j : Nat} (h : ¬ i < j) (hi : i < 2147483648) : ¬ Int32.ofNat i < Int32.ofNat j := by
  rw [Int32.lt_iff_toInt_lt, own_toI hi, own_toI (by omega)]; omega
theorem own_ltI {i j : Nat} (h : Int32.ofNat i < Int32.ofNat j) (hi : i < 2147483648) (hj : j < 2147483648) : i < j := by
  rw [Int32.lt_iff_toInt_lt, own_toI hi, own_toI hj] at h; omega
theorem own_nltI {i j : Nat} (h : ¬ Int32.ofNat i < Int32.ofNat j) (hi : i < 2147483648) (hj : j < 2147483648) : ¬ i < j := by
  rw [Int32.lt_iff_toInt_lt, own_toI hi, own_toI hj] at h; omega
theorem own_inj {i j : Nat} (h : Int32.ofNat i = Int32.ofNat j) (hi : i < 2147483648) (hj : j < 2147483648) : i = j := by
  have q := congrArg Int32.toInt h
  rw [own_toI hi, own_toI hj] at q; omega
theorem own_nneg (i : Nat) (hi : i < 2147483648) : ¬ Int32.ofNat i < 0 := by
  rw [Int32.lt_iff_toInt_lt, own_toI hi]; show ¬ (i : Int) < 0; omega
theorem own_clamp {i : Nat} (hi : i < 2147483648) : (Int32.ofNat i).toNatClampNeg = i := clamp_of rfl hi
theorem own_narm (x : Int32) : nar .char (x &&& (255 : Int32)) = (x &&& (255 : Int32)) := i2c_mask x
theorem own_osz {Z : State} {n0 : Nat} {h : Heap} (O : Old Z n0 h) : n0 ≤ h.size := O.1 ▸ O.2.1
theorem pn_0 : plainName "java/lang/StringLatin1" = true := by first | (simp [plainName, overriddenIn]; done) | decide +kernel
theorem pn_1 : plainName "java/lang/String" = true := by first | (simp [plainName, overriddenIn]; done) | decide +kernel
theorem pn_2 : plainName "java/lang/StringUTF16" = true := by first | (simp [plainName, overriddenIn]; done) | decide +kernel
theorem pn_3 : plainName "jdk/internal/util/Preconditions" = true := by first | (simp [plainName, overriddenIn]; done) | decide +kernel
theorem pn_4 : plainName "com/example/ullr/ullr/files/GlobIsGlobPinLaw" = true := by first | (simp [plainName, overriddenIn]; done) | decide +kernel
theorem pn_5 : plainName "com/example/ullr/ullr/files/Glob" = true := by first | (simp [plainName, overriddenIn]; done) | decide +kernel
theorem pd_0 : parseMethodDescriptor "(I)I" = some ⟨[.int], some .int⟩ := by decide +kernel
theorem pd_1 : parseMethodDescriptor "([BI)C" = some ⟨[(.array .byte), .int], some .char⟩ := by decide +kernel
theorem pd_2 : parseMethodDescriptor "(IIILjava/util/function/BiFunction;)I" = some ⟨[.int, .int, .int, (.object "java/util/function/BiFunction")], some .int⟩ := by decide +kernel
theorem pd_3 : parseMethodDescriptor "([B)I" = some ⟨[(.array .byte)], some .int⟩ := by decide +kernel
theorem pd_4 : parseMethodDescriptor "(III)V" = some ⟨[.int, .int, .int], none⟩ := by decide +kernel
theorem pd_5 : parseMethodDescriptor "(II[B)V" = some ⟨[.int, .int, (.array .byte)], none⟩ := by decide +kernel
theorem pd_6 : parseMethodDescriptor "([BIII)I" = some ⟨[(.array .byte), .int, .int, .int], some .int⟩ := by decide +kernel
theorem pd_7 : parseMethodDescriptor "(II)I" = some ⟨[.int, .int], some .int⟩ := by decide +kernel
theorem pd_8 : parseMethodDescriptor "()B" = some ⟨[], some .byte⟩ := by decide +kernel
theorem pd_9 : parseMethodDescriptor "()Z" = some ⟨[], some .boolean⟩ := by decide +kernel
theorem pd_10 : parseMethodDescriptor "()I" = some ⟨[], some .int⟩ := by decide +kernel
theorem pd_11 : parseMethodDescriptor "(I)[B" = some ⟨[.int], some (.array .byte)⟩ := by decide +kernel
theorem pd_12 : parseMethodDescriptor "([BII)V" = some ⟨[(.array .byte), .int, .int], none⟩ := by decide +kernel
theorem pd_13 : parseMethodDescriptor "([CI[BII)I" = some ⟨[(.array .char), .int, (.array .byte), .int, .int], some .int⟩ := by decide +kernel
theorem pd_14 : parseMethodDescriptor "([CII)[B" = some ⟨[(.array .char), .int, .int], some (.array .byte)⟩ := by decide +kernel
theorem pd_15 : parseMethodDescriptor "([BI)B" = some ⟨[(.array .byte), .int], some .byte⟩ := by decide +kernel
theorem pd_16 : parseMethodDescriptor "([CIILjava/lang/Void;)V" = some ⟨[(.array .char), .int, .int, (.object "java/lang/Void")], none⟩ := by decide +kernel
theorem pd_17 : parseMethodDescriptor "(I)Z" = some ⟨[.int], some .boolean⟩ := by decide +kernel
theorem pd_18 : parseMethodDescriptor "(I)C" = some ⟨[.int], some .char⟩ := by decide +kernel
theorem pd_19 : parseMethodDescriptor "([C)V" = some ⟨[(.array .char)], none⟩ := by decide +kernel
theorem pd_20 : parseMethodDescriptor "(Ljava/lang/String;)Z" = some ⟨[(.object "java/lang/String")], some .boolean⟩ := by decide +kernel
theorem pd_21 : parseMethodDescriptor "(C)Z" = some ⟨[.char], some .boolean⟩ := by decide +kernel
theorem dj29_65_0 : decode jdk_29_method_65_code 0 = .ok (.iload_n 0, 1) := by decide +kernel
theorem dj29_65_1 : decode jdk_29_method_65_code 1 = .ok (.iload_n 1, 1) := by decide +kernel
theorem dj29_65_10 : decode jdk_29_method_65_code 10 = .ok (.ireturn, 1) := by decide +kernel
theorem dj29_65_2 : decode jdk_29_method_65_code 2 = .ok (.if_icmp .lt 7, 3) := by decide +kernel
theorem dj29_65_5 : decode jdk_29_method_65_code 5 = .ok (.iload_n 0, 1) := by decide +kernel
theorem dj29_65_6 : decode jdk_29_method_65_code 6 = .ok (.goto 4, 3) := by decide +kernel
theorem dj29_65_9 : decode jdk_29_method_65_code 9 = .ok (.iload_n 1, 1) := by decide +kernel
theorem dj29_69_0 : decode jdk_29_method_69_code 0 = .ok (.iload_n 0, 1) := by decide +kernel
theorem dj29_69_1 : decode jdk_29_method_69_code 1 = .ok (.iload_n 1, 1) := by decide +kernel
theorem dj29_69_10 : decode jdk_29_method_69_code 10 = .ok (.ireturn, 1) := by decide +kernel
theorem dj29_69_2 : decode jdk_29_method_69_code 2 = .ok (.if_icmp .gt 7, 3) := by decide +kernel
theorem dj29_69_5 : decode jdk_29_method_69_code 5 = .ok (.iload_n 0, 1) := by decide +kernel
theorem dj29_69_6 : decode jdk_29_method_69_code 6 = .ok (.goto 4, 3) := by decide +kernel
theorem dj29_69_9 : decode jdk_29_method_69_code 9 = .ok (.iload_n 1, 1) := by decide +kernel
theorem dj41_12_0 : decode jdk_41_method_12_code 0 = .ok (.iload_n 0, 1) := by decide +kernel
theorem dj41_12_1 : decode jdk_41_method_12_code 1 = .ok (.ifCond .lt 13, 3) := by decide +kernel
theorem dj41_12_10 : decode jdk_41_method_12_code 10 = .ok (.iload_n 2, 1) := by decide +kernel
theorem dj41_12_11 : decode jdk_41_method_12_code 11 = .ok (.if_icmp .le 11, 3) := by decide +kernel
theorem dj41_12_22 : decode jdk_41_method_12_code 22 = .ok (.iload_n 0, 1) := by decide +kernel
theorem dj41_12_23 : decode jdk_41_method_12_code 23 = .ok (.ireturn, 1) := by decide +kernel
theorem dj41_12_4 : decode jdk_41_method_12_code 4 = .ok (.iload_n 0, 1) := by decide +kernel
theorem dj41_12_5 : decode jdk_41_method_12_code 5 = .ok (.iload_n 1, 1) := by decide +kernel
theorem dj41_12_6 : decode jdk_41_method_12_code 6 = .ok (.if_icmp .gt 8, 3) := by decide +kernel
theorem dj41_12_9 : decode jdk_41_method_12_code 9 = .ok (.iload_n 1, 1) := by decide +kernel
theorem dj42_149_0 : decode jdk_42_method_149_code 0 = .ok (.aload_n 0, 1) := by decide +kernel
theorem dj42_149_1 : decode jdk_42_method_149_code 1 = .ok (.invokespecial 1, 3) := by decide +kernel
theorem dj42_149_11 : decode jdk_42_method_149_code 11 = .ok (.getfield 9, 3) := by decide +kernel
theorem dj42_149_14 : decode jdk_42_method_149_code 14 = .ok (.putfield 9, 3) := by decide +kernel
theorem dj42_149_17 : decode jdk_42_method_149_code 17 = .ok (.aload_n 0, 1) := by decide +kernel
theorem dj42_149_18 : decode jdk_42_method_149_code 18 = .ok (.ldc 7, 2) := by decide +kernel
theorem dj42_149_20 : decode jdk_42_method_149_code 20 = .ok (.getfield 15, 3) := by decide +kernel
theorem dj42_149_23 : decode jdk_42_method_149_code 23 = .ok (.putfield 15, 3) := by decide +kernel
theorem dj42_149_26 : decode jdk_42_method_149_code 26 = .ok (.return_, 1) := by decide +kernel
theorem dj42_149_27 : decode jdk_42_method_149_code 27 = .ok (.getstatic 38, 3) := by decide +kernel
theorem dj42_149_30 : decode jdk_42_method_149_code 30 = .ok (.ifCond .eq 28, 3) := by decide +kernel
theorem dj42_149_33 : decode jdk_42_method_149_code 33 = .ok (.aload_n 1, 1) := by decide +kernel
theorem dj42_149_34 : decode jdk_42_method_149_code 34 = .ok (.iload_n 2, 1) := by decide +kernel
theorem dj42_149_35 : decode jdk_42_method_149_code 35 = .ok (.iload_n 3, 1) := by decide +kernel
theorem dj42_149_36 : decode jdk_42_method_149_code 36 = .ok (.invokestatic 177, 3) := by decide +kernel
theorem dj42_149_39 : decode jdk_42_method_149_code 39 = .ok (.astore 5, 2) := by decide +kernel
theorem dj42_149_4 : decode jdk_42_method_149_code 4 = .ok (.iload_n 3, 1) := by decide +kernel
theorem dj42_149_41 : decode jdk_42_method_149_code 41 = .ok (.aload_n 0, 1) := by decide +kernel
theorem dj42_149_42 : decode jdk_42_method_149_code 42 = .ok (.aload 5, 2) := by decide +kernel
theorem dj42_149_44 : decode jdk_42_method_149_code 44 = .ok (.iload_n 3, 1) := by decide +kernel
theorem dj42_149_45 : decode jdk_42_method_149_code 45 = .ok (.invokestatic 47, 3) := by decide +kernel
theorem dj42_149_48 : decode jdk_42_method_149_code 48 = .ok (.putfield 15, 3) := by decide +kernel
theorem dj42_149_5 : decode jdk_42_method_149_code 5 = .ok (.ifCond .ne 22, 3) := by decide +kernel
theorem dj42_149_51 : decode jdk_42_method_149_code 51 = .ok (.aload_n 0, 1) := by decide +kernel
theorem dj42_149_52 : decode jdk_42_method_149_code 52 = .ok (.aload 5, 2) := by decide +kernel
theorem dj42_149_54 : decode jdk_42_method_149_code 54 = .ok (.putfield 9, 3) := by decide +kernel
theorem dj42_149_57 : decode jdk_42_method_149_code 57 = .ok (.return_, 1) := by decide +kernel
theorem dj42_149_8 : decode jdk_42_method_149_code 8 = .ok (.aload_n 0, 1) := by decide +kernel
theorem dj42_149_9 : decode jdk_42_method_149_code 9 = .ok (.ldc 7, 2) := by decide +kernel
theorem dj42_152_0 : decode jdk_42_method_152_code 0 = .ok (.getstatic 38, 3) := by decide +kernel
theorem dj42_152_10 : decode jdk_42_method_152_code 10 = .ok (.goto 4, 3) := by decide +kernel
theorem dj42_152_14 : decode jdk_42_method_152_code 14 = .ok (.ireturn, 1) := by decide +kernel
theorem dj42_152_3 : decode jdk_42_method_152_code 3 = .ok (.ifCond .eq 10, 3) := by decide +kernel
theorem dj42_152_6 : decode jdk_42_method_152_code 6 = .ok (.aload_n 0, 1) := by decide +kernel
theorem dj42_152_7 : decode jdk_42_method_152_code 7 = .ok (.getfield 15, 3) := by decide +kernel
theorem dj42_154_0 : decode jdk_42_method_154_code 0 = .ok (.getstatic 38, 3) := by decide +kernel
theorem dj42_154_10 : decode jdk_42_method_154_code 10 = .ok (.ifCond .ne 7, 3) := by decide +kernel
theorem dj42_154_13 : decode jdk_42_method_154_code 13 = .ok (.iconst 1, 1) := by decide +kernel
theorem dj42_154_14 : decode jdk_42_method_154_code 14 = .ok (.goto 4, 3) := by decide +kernel
theorem dj42_154_17 : decode jdk_42_method_154_code 17 = .ok (.iconst 0, 1) := by decide +kernel
theorem dj42_154_18 : decode jdk_42_method_154_code 18 = .ok (.ireturn, 1) := by decide +kernel
theorem dj42_154_3 : decode jdk_42_method_154_code 3 = .ok (.ifCond .eq 14, 3) := by decide +kernel
theorem dj42_154_6 : decode jdk_42_method_154_code 6 = .ok (.aload_n 0, 1) := by decide +kernel
theorem dj42_154_7 : decode jdk_42_method_154_code 7 = .ok (.getfield 15, 3) := by decide +kernel
theorem dj42_158_0 : decode jdk_42_method_158_code 0 = .ok (.iload_n 0, 1) := by decide +kernel
theorem dj42_158_1 : decode jdk_42_method_158_code 1 = .ok (.iload_n 1, 1) := by decide +kernel
theorem dj42_158_10 : decode jdk_42_method_158_code 10 = .ok (.return_, 1) := by decide +kernel
theorem dj42_158_2 : decode jdk_42_method_158_code 2 = .ok (.iload_n 2, 1) := by decide +kernel
theorem dj42_158_3 : decode jdk_42_method_158_code 3 = .ok (.getstatic 1053, 3) := by decide +kernel
theorem dj42_158_6 : decode jdk_42_method_158_code 6 = .ok (.invokestatic 1062, 3) := by decide +kernel
theorem dj42_158_9 : decode jdk_42_method_158_code 9 = .ok (.pop, 1) := by decide +kernel
theorem dj42_3_0 : decode jdk_42_method_3_code 0 = .ok (.aload_n 0, 1) := by decide +kernel
theorem dj42_3_1 : decode jdk_42_method_3_code 1 = .ok (.aload_n 1, 1) := by decide +kernel
theorem dj42_3_2 : decode jdk_42_method_3_code 2 = .ok (.iconst 0, 1) := by decide +kernel
theorem dj42_3_3 : decode jdk_42_method_3_code 3 = .ok (.aload_n 1, 1) := by decide +kernel
theorem dj42_3_4 : decode jdk_42_method_3_code 4 = .ok (.arraylength, 1) := by decide +kernel
theorem dj42_3_5 : decode jdk_42_method_3_code 5 = .ok (.aconst_null, 1) := by decide +kernel
theorem dj42_3_6 : decode jdk_42_method_3_code 6 = .ok (.invokespecial 27, 3) := by decide +kernel
theorem dj42_3_9 : decode jdk_42_method_3_code 9 = .ok (.return_, 1) := by decide +kernel
theorem dj42_54_0 : decode jdk_42_method_54_code 0 = .ok (.aload_n 0, 1) := by decide +kernel
theorem dj42_54_1 : decode jdk_42_method_54_code 1 = .ok (.getfield 9, 3) := by decide +kernel
theorem dj42_54_10 : decode jdk_42_method_54_code 10 = .ok (.ireturn, 1) := by decide +kernel
theorem dj42_54_4 : decode jdk_42_method_54_code 4 = .ok (.arraylength, 1) := by decide +kernel
theorem dj42_54_5 : decode jdk_42_method_54_code 5 = .ok (.aload_n 0, 1) := by decide +kernel
theorem dj42_54_6 : decode jdk_42_method_54_code 6 = .ok (.invokevirtual 335, 3) := by decide +kernel
theorem dj42_54_9 : decode jdk_42_method_54_code 9 = .ok (.ishr, 1) := by decide +kernel
theorem dj42_79_0 : decode jdk_42_method_79_code 0 = .ok (.aload_n 0, 1) := by decide +kernel
theorem dj42_79_1 : decode jdk_42_method_79_code 1 = .ok (.iload_n 1, 1) := by decide +kernel
theorem dj42_79_2 : decode jdk_42_method_79_code 2 = .ok (.iconst 0, 1) := by decide +kernel
theorem dj42_79_3 : decode jdk_42_method_79_code 3 = .ok (.invokevirtual 633, 3) := by decide +kernel
theorem dj42_79_6 : decode jdk_42_method_79_code 6 = .ok (.ireturn, 1) := by decide +kernel
theorem dj42_80_0 : decode jdk_42_method_80_code 0 = .ok (.aload_n 0, 1) := by decide +kernel
theorem dj42_80_1 : decode jdk_42_method_80_code 1 = .ok (.invokevirtual 492, 3) := by decide +kernel
theorem dj42_80_11 : decode jdk_42_method_80_code 11 = .ok (.iload_n 1, 1) := by decide +kernel
theorem dj42_80_12 : decode jdk_42_method_80_code 12 = .ok (.iload_n 2, 1) := by decide +kernel
theorem dj42_80_13 : decode jdk_42_method_80_code 13 = .ok (.aload_n 0, 1) := by decide +kernel
theorem dj42_80_14 : decode jdk_42_method_80_code 14 = .ok (.invokevirtual 505, 3) := by decide +kernel
theorem dj42_80_17 : decode jdk_42_method_80_code 17 = .ok (.invokestatic 637, 3) := by decide +kernel
theorem dj42_80_20 : decode jdk_42_method_80_code 20 = .ok (.goto 16, 3) := by decide +kernel
theorem dj42_80_23 : decode jdk_42_method_80_code 23 = .ok (.aload_n 0, 1) := by decide +kernel
theorem dj42_80_24 : decode jdk_42_method_80_code 24 = .ok (.getfield 9, 3) := by decide +kernel
theorem dj42_80_27 : decode jdk_42_method_80_code 27 = .ok (.iload_n 1, 1) := by decide +kernel
theorem dj42_80_28 : decode jdk_42_method_80_code 28 = .ok (.iload_n 2, 1) := by decide +kernel
theorem dj42_80_29 : decode jdk_42_method_80_code 29 = .ok (.aload_n 0, 1) := by decide +kernel
theorem dj42_80_30 : decode jdk_42_method_80_code 30 = .ok (.invokevirtual 505, 3) := by decide +kernel
theorem dj42_80_33 : decode jdk_42_method_80_code 33 = .ok (.invokestatic 640, 3) := by decide +kernel
theorem dj42_80_36 : decode jdk_42_method_80_code 36 = .ok (.ireturn, 1) := by decide +kernel
theorem dj42_80_4 : decode jdk_42_method_80_code 4 = .ok (.ifCond .eq 19, 3) := by decide +kernel
theorem dj42_80_7 : decode jdk_42_method_80_code 7 = .ok (.aload_n 0, 1) := by decide +kernel
theorem dj42_80_8 : decode jdk_42_method_80_code 8 = .ok (.getfield 9, 3) := by decide +kernel
theorem dj43_22_0 : decode jdk_43_method_22_code 0 = .ok (.iload_n 1, 1) := by decide +kernel
theorem dj43_22_1 : decode jdk_43_method_22_code 1 = .ok (.invokestatic 88, 3) := by decide +kernel
theorem dj43_22_10 : decode jdk_43_method_22_code 10 = .ok (.iconst 0, 1) := by decide +kernel
theorem dj43_22_11 : decode jdk_43_method_22_code 11 = .ok (.invokestatic 92, 3) := by decide +kernel
theorem dj43_22_14 : decode jdk_43_method_22_code 14 = .ok (.istore_n 2, 1) := by decide +kernel
theorem dj43_22_15 : decode jdk_43_method_22_code 15 = .ok (.iload_n 3, 1) := by decide +kernel
theorem dj43_22_16 : decode jdk_43_method_22_code 16 = .ok (.aload_n 0, 1) := by decide +kernel
theorem dj43_22_17 : decode jdk_43_method_22_code 17 = .ok (.arraylength, 1) := by decide +kernel
theorem dj43_22_18 : decode jdk_43_method_22_code 18 = .ok (.invokestatic 38, 3) := by decide +kernel
theorem dj43_22_21 : decode jdk_43_method_22_code 21 = .ok (.istore_n 3, 1) := by decide +kernel
theorem dj43_22_22 : decode jdk_43_method_22_code 22 = .ok (.iload_n 2, 1) := by decide +kernel
theorem dj43_22_23 : decode jdk_43_method_22_code 23 = .ok (.iload_n 3, 1) := by decide +kernel
theorem dj43_22_24 : decode jdk_43_method_22_code 24 = .ok (.if_icmp .lt 5, 3) := by decide +kernel
theorem dj43_22_27 : decode jdk_43_method_22_code 27 = .ok (.iconst (-1), 1) := by decide +kernel
theorem dj43_22_28 : decode jdk_43_method_22_code 28 = .ok (.ireturn, 1) := by decide +kernel
theorem dj43_22_29 : decode jdk_43_method_22_code 29 = .ok (.aload_n 0, 1) := by decide +kernel
theorem dj43_22_30 : decode jdk_43_method_22_code 30 = .ok (.iload_n 1, 1) := by decide +kernel
theorem dj43_22_31 : decode jdk_43_method_22_code 31 = .ok (.iload_n 2, 1) := by decide +kernel
theorem dj43_22_32 : decode jdk_43_method_22_code 32 = .ok (.iload_n 3, 1) := by decide +kernel
theorem dj43_22_33 : decode jdk_43_method_22_code 33 = .ok (.invokestatic 95, 3) := by decide +kernel
theorem dj43_22_36 : decode jdk_43_method_22_code 36 = .ok (.ireturn, 1) := by decide +kernel
theorem dj43_22_4 : decode jdk_43_method_22_code 4 = .ok (.ifCond .ne 5, 3) := by decide +kernel
theorem dj43_22_7 : decode jdk_43_method_22_code 7 = .ok (.iconst (-1), 1) := by decide +kernel
theorem dj43_22_8 : decode jdk_43_method_22_code 8 = .ok (.ireturn, 1) := by decide +kernel
theorem dj43_22_9 : decode jdk_43_method_22_code 9 = .ok (.iload_n 2, 1) := by decide +kernel
theorem dj43_23_0 : decode jdk_43_method_23_code 0 = .ok (.iload_n 1, 1) := by decide +kernel
theorem dj43_23_1 : decode jdk_43_method_23_code 1 = .ok (.i2b, 1) := by decide +kernel
theorem dj43_23_10 : decode jdk_43_method_23_code 10 = .ok (.if_icmp .ge 21, 3) := by decide +kernel
theorem dj43_23_13 : decode jdk_43_method_23_code 13 = .ok (.aload_n 0, 1) := by decide +kernel
theorem dj43_23_14 : decode jdk_43_method_23_code 14 = .ok (.iload 5, 2) := by decide +kernel
theorem dj43_23_16 : decode jdk_43_method_23_code 16 = .ok (.baload, 1) := by decide +kernel
theorem dj43_23_17 : decode jdk_43_method_23_code 17 = .ok (.iload 4, 2) := by decide +kernel
theorem dj43_23_19 : decode jdk_43_method_23_code 19 = .ok (.if_icmp .ne 6, 3) := by decide +kernel
theorem dj43_23_2 : decode jdk_43_method_23_code 2 = .ok (.istore 4, 2) := by decide +kernel
theorem dj43_23_22 : decode jdk_43_method_23_code 22 = .ok (.iload 5, 2) := by decide +kernel
theorem dj43_23_24 : decode jdk_43_method_23_code 24 = .ok (.ireturn, 1) := by decide +kernel
theorem dj43_23_25 : decode jdk_43_method_23_code 25 = .ok (.iinc 5 1, 3) := by decide +kernel
theorem dj43_23_28 : decode jdk_43_method_23_code 28 = .ok (.goto (-21), 3) := by decide +kernel
theorem dj43_23_31 : decode jdk_43_method_23_code 31 = .ok (.iconst (-1), 1) := by decide +kernel
theorem dj43_23_32 : decode jdk_43_method_23_code 32 = .ok (.ireturn, 1) := by decide +kernel
theorem dj43_23_4 : decode jdk_43_method_23_code 4 = .ok (.iload_n 2, 1) := by decide +kernel
theorem dj43_23_5 : decode jdk_43_method_23_code 5 = .ok (.istore 5, 2) := by decide +kernel
theorem dj43_23_7 : decode jdk_43_method_23_code 7 = .ok (.iload 5, 2) := by decide +kernel
theorem dj43_23_9 : decode jdk_43_method_23_code 9 = .ok (.iload_n 3, 1) := by decide +kernel
theorem dj43_4_0 : decode jdk_43_method_4_code 0 = .ok (.iload_n 0, 1) := by decide +kernel
theorem dj43_4_1 : decode jdk_43_method_4_code 1 = .ok (.ifCond .lt 14, 3) := by decide +kernel
theorem dj43_4_11 : decode jdk_43_method_4_code 11 = .ok (.iconst 1, 1) := by decide +kernel
theorem dj43_4_12 : decode jdk_43_method_4_code 12 = .ok (.goto 4, 3) := by decide +kernel
theorem dj43_4_15 : decode jdk_43_method_4_code 15 = .ok (.iconst 0, 1) := by decide +kernel
theorem dj43_4_16 : decode jdk_43_method_4_code 16 = .ok (.ireturn, 1) := by decide +kernel
theorem dj43_4_4 : decode jdk_43_method_4_code 4 = .ok (.iload_n 0, 1) := by decide +kernel
theorem dj43_4_5 : decode jdk_43_method_4_code 5 = .ok (.sipush 255, 3) := by decide +kernel
theorem dj43_4_8 : decode jdk_43_method_4_code 8 = .ok (.if_icmp .gt 7, 3) := by decide +kernel
theorem dj52_14_0 : decode jdk_52_method_14_code 0 = .ok (.iload_n 2, 1) := by decide +kernel
theorem dj52_14_1 : decode jdk_52_method_14_code 1 = .ok (.invokestatic 107, 3) := by decide +kernel
theorem dj52_14_10 : decode jdk_52_method_14_code 10 = .ok (.iload_n 2, 1) := by decide +kernel
theorem dj52_14_11 : decode jdk_52_method_14_code 11 = .ok (.if_icmp .ge 21, 3) := by decide +kernel
theorem dj52_14_14 : decode jdk_52_method_14_code 14 = .ok (.aload_n 3, 1) := by decide +kernel
theorem dj52_14_15 : decode jdk_52_method_14_code 15 = .ok (.iload 4, 2) := by decide +kernel
theorem dj52_14_17 : decode jdk_52_method_14_code 17 = .ok (.aload_n 0, 1) := by decide +kernel
theorem dj52_14_18 : decode jdk_52_method_14_code 18 = .ok (.iload_n 1, 1) := by decide +kernel
theorem dj52_14_19 : decode jdk_52_method_14_code 19 = .ok (.caload, 1) := by decide +kernel
theorem dj52_14_20 : decode jdk_52_method_14_code 20 = .ok (.invokestatic 111, 3) := by decide +kernel
theorem dj52_14_23 : decode jdk_52_method_14_code 23 = .ok (.iinc 1 1, 3) := by decide +kernel
theorem dj52_14_26 : decode jdk_52_method_14_code 26 = .ok (.iinc 4 1, 3) := by decide +kernel
theorem dj52_14_29 : decode jdk_52_method_14_code 29 = .ok (.goto (-21), 3) := by decide +kernel
theorem dj52_14_32 : decode jdk_52_method_14_code 32 = .ok (.aload_n 3, 1) := by decide +kernel
theorem dj52_14_33 : decode jdk_52_method_14_code 33 = .ok (.areturn, 1) := by decide +kernel
theorem dj52_14_4 : decode jdk_52_method_14_code 4 = .ok (.astore_n 3, 1) := by decide +kernel
theorem dj52_14_5 : decode jdk_52_method_14_code 5 = .ok (.iconst 0, 1) := by decide +kernel
theorem dj52_14_6 : decode jdk_52_method_14_code 6 = .ok (.istore 4, 2) := by decide +kernel
theorem dj52_14_8 : decode jdk_52_method_14_code 8 = .ok (.iload 4, 2) := by decide +kernel
theorem dj52_15_0 : decode jdk_52_method_15_code 0 = .ok (.iload_n 1, 1) := by decide +kernel
theorem dj52_15_1 : decode jdk_52_method_15_code 1 = .ok (.aload_n 0, 1) := by decide +kernel
theorem dj52_15_2 : decode jdk_52_method_15_code 2 = .ok (.arraylength, 1) := by decide +kernel
theorem dj52_15_3 : decode jdk_52_method_15_code 3 = .ok (.isub, 1) := by decide +kernel
theorem dj52_15_4 : decode jdk_52_method_15_code 4 = .ok (.bipush 31, 2) := by decide +kernel
theorem dj52_15_6 : decode jdk_52_method_15_code 6 = .ok (.iushr, 1) := by decide +kernel
theorem dj52_15_7 : decode jdk_52_method_15_code 7 = .ok (.i2b, 1) := by decide +kernel
theorem dj52_15_8 : decode jdk_52_method_15_code 8 = .ok (.ireturn, 1) := by decide +kernel
theorem dj52_16_0 : decode jdk_52_method_16_code 0 = .ok (.iload_n 2, 1) := by decide +kernel
theorem dj52_16_1 : decode jdk_52_method_16_code 1 = .ok (.newarray .byte, 2) := by decide +kernel
theorem dj52_16_12 : decode jdk_52_method_16_code 12 = .ok (.istore 4, 2) := by decide +kernel
theorem dj52_16_14 : decode jdk_52_method_16_code 14 = .ok (.iload 4, 2) := by decide +kernel
theorem dj52_16_16 : decode jdk_52_method_16_code 16 = .ok (.iload_n 2, 1) := by decide +kernel
theorem dj52_16_17 : decode jdk_52_method_16_code 17 = .ok (.if_icmp .eq 40, 3) := by decide +kernel
theorem dj52_16_20 : decode jdk_52_method_16_code 20 = .ok (.aload_n 0, 1) := by decide +kernel
theorem dj52_16_21 : decode jdk_52_method_16_code 21 = .ok (.iload_n 1, 1) := by decide +kernel
theorem dj52_16_22 : decode jdk_52_method_16_code 22 = .ok (.iload_n 2, 1) := by decide +kernel
theorem dj52_16_23 : decode jdk_52_method_16_code 23 = .ok (.invokestatic 119, 3) := by decide +kernel
theorem dj52_16_26 : decode jdk_52_method_16_code 26 = .ok (.astore 5, 2) := by decide +kernel
theorem dj52_16_28 : decode jdk_52_method_16_code 28 = .ok (.aload 5, 2) := by decide +kernel
theorem dj52_16_3 : decode jdk_52_method_16_code 3 = .ok (.astore_n 3, 1) := by decide +kernel
theorem dj52_16_30 : decode jdk_52_method_16_code 30 = .ok (.iload 4, 2) := by decide +kernel
theorem dj52_16_32 : decode jdk_52_method_16_code 32 = .ok (.invokestatic 71, 3) := by decide +kernel
theorem dj52_16_35 : decode jdk_52_method_16_code 35 = .ok (.sipush 255, 3) := by decide +kernel
theorem dj52_16_38 : decode jdk_52_method_16_code 38 = .ok (.if_icmp .gt 16, 3) := by decide +kernel
theorem dj52_16_4 : decode jdk_52_method_16_code 4 = .ok (.aload_n 0, 1) := by decide +kernel
theorem dj52_16_5 : decode jdk_52_method_16_code 5 = .ok (.iload_n 1, 1) := by decide +kernel
theorem dj52_16_54 : decode jdk_52_method_16_code 54 = .ok (.aload 5, 2) := by decide +kernel
theorem dj52_16_56 : decode jdk_52_method_16_code 56 = .ok (.areturn, 1) := by decide +kernel
theorem dj52_16_6 : decode jdk_52_method_16_code 6 = .ok (.aload_n 3, 1) := by decide +kernel
theorem dj52_16_7 : decode jdk_52_method_16_code 7 = .ok (.iconst 0, 1) := by decide +kernel
theorem dj52_16_8 : decode jdk_52_method_16_code 8 = .ok (.iload_n 2, 1) := by decide +kernel
theorem dj52_16_9 : decode jdk_52_method_16_code 9 = .ok (.invokestatic 115, 3) := by decide +kernel
theorem dj52_21_0 : decode jdk_52_method_21_code 0 = .ok (.iconst 0, 1) := by decide +kernel
theorem dj52_21_1 : decode jdk_52_method_21_code 1 = .ok (.istore 5, 2) := by decide +kernel
theorem dj52_21_10 : decode jdk_52_method_21_code 10 = .ok (.aload_n 0, 1) := by decide +kernel
theorem dj52_21_11 : decode jdk_52_method_21_code 11 = .ok (.iload_n 1, 1) := by decide +kernel
theorem dj52_21_12 : decode jdk_52_method_21_code 12 = .ok (.caload, 1) := by decide +kernel
theorem dj52_21_13 : decode jdk_52_method_21_code 13 = .ok (.istore 6, 2) := by decide +kernel
theorem dj52_21_15 : decode jdk_52_method_21_code 15 = .ok (.iload 6, 2) := by decide +kernel
theorem dj52_21_17 : decode jdk_52_method_21_code 17 = .ok (.sipush 255, 3) := by decide +kernel
theorem dj52_21_20 : decode jdk_52_method_21_code 20 = .ok (.if_icmp .le 6, 3) := by decide +kernel
theorem dj52_21_23 : decode jdk_52_method_21_code 23 = .ok (.iload 5, 2) := by decide +kernel
theorem dj52_21_25 : decode jdk_52_method_21_code 25 = .ok (.ireturn, 1) := by decide +kernel
theorem dj52_21_26 : decode jdk_52_method_21_code 26 = .ok (.aload_n 2, 1) := by decide +kernel
theorem dj52_21_27 : decode jdk_52_method_21_code 27 = .ok (.iload_n 3, 1) := by decide +kernel
theorem dj52_21_28 : decode jdk_52_method_21_code 28 = .ok (.iload 6, 2) := by decide +kernel
theorem dj52_21_3 : decode jdk_52_method_21_code 3 = .ok (.iload 5, 2) := by decide +kernel
theorem dj52_21_30 : decode jdk_52_method_21_code 30 = .ok (.i2b, 1) := by decide +kernel
theorem dj52_21_31 : decode jdk_52_method_21_code 31 = .ok (.bastore, 1) := by decide +kernel
theorem dj52_21_32 : decode jdk_52_method_21_code 32 = .ok (.iinc 1 1, 3) := by decide +kernel
theorem dj52_21_35 : decode jdk_52_method_21_code 35 = .ok (.iinc 3 1, 3) := by decide +kernel
theorem dj52_21_38 : decode jdk_52_method_21_code 38 = .ok (.iinc 5 1, 3) := by decide +kernel
theorem dj52_21_41 : decode jdk_52_method_21_code 41 = .ok (.goto (-38), 3) := by decide +kernel
theorem dj52_21_5 : decode jdk_52_method_21_code 5 = .ok (.iload 4, 2) := by decide +kernel
theorem dj52_21_7 : decode jdk_52_method_21_code 7 = .ok (.if_icmp .ge 37, 3) := by decide +kernel
theorem dj52_2_0 : decode jdk_52_method_2_code 0 = .ok (.iload_n 0, 1) := by decide +kernel
theorem dj52_2_1 : decode jdk_52_method_2_code 1 = .ok (.invokestatic 11, 3) := by decide +kernel
theorem dj52_2_4 : decode jdk_52_method_2_code 4 = .ok (.newarray .byte, 2) := by decide +kernel
theorem dj52_2_6 : decode jdk_52_method_2_code 6 = .ok (.areturn, 1) := by decide +kernel
theorem dj52_3_0 : decode jdk_52_method_3_code 0 = .ok (.iload_n 0, 1) := by decide +kernel
theorem dj52_3_1 : decode jdk_52_method_3_code 1 = .ok (.ifCond .ge 11, 3) := by decide +kernel
theorem dj52_3_12 : decode jdk_52_method_3_code 12 = .ok (.iload_n 0, 1) := by decide +kernel
theorem dj52_3_13 : decode jdk_52_method_3_code 13 = .ok (.ldc 20, 2) := by decide +kernel
theorem dj52_3_15 : decode jdk_52_method_3_code 15 = .ok (.if_icmp .lt 40, 3) := by decide +kernel
theorem dj52_3_55 : decode jdk_52_method_3_code 55 = .ok (.iload_n 0, 1) := by decide +kernel
theorem dj52_3_56 : decode jdk_52_method_3_code 56 = .ok (.iconst 1, 1) := by decide +kernel
theorem dj52_3_57 : decode jdk_52_method_3_code 57 = .ok (.ishl, 1) := by decide +kernel
theorem dj52_3_58 : decode jdk_52_method_3_code 58 = .ok (.ireturn, 1) := by decide +kernel
theorem dj52_40_0 : decode jdk_52_method_40_code 0 = .ok (.iload_n 2, 1) := by decide +kernel
theorem dj52_40_1 : decode jdk_52_method_40_code 1 = .ok (.iconst 0, 1) := by decide +kernel
theorem dj52_40_10 : decode jdk_52_method_40_code 10 = .ok (.ishr, 1) := by decide +kernel
theorem dj52_40_11 : decode jdk_52_method_40_code 11 = .ok (.invokestatic 183, 3) := by decide +kernel
theorem dj52_40_14 : decode jdk_52_method_40_code 14 = .ok (.istore_n 3, 1) := by decide +kernel
theorem dj52_40_15 : decode jdk_52_method_40_code 15 = .ok (.iload_n 2, 1) := by decide +kernel
theorem dj52_40_16 : decode jdk_52_method_40_code 16 = .ok (.iload_n 3, 1) := by decide +kernel
theorem dj52_40_17 : decode jdk_52_method_40_code 17 = .ok (.if_icmp .lt 5, 3) := by decide +kernel
theorem dj52_40_2 : decode jdk_52_method_40_code 2 = .ok (.invokestatic 224, 3) := by decide +kernel
theorem dj52_40_22 : decode jdk_52_method_40_code 22 = .ok (.iload_n 1, 1) := by decide +kernel
theorem dj52_40_23 : decode jdk_52_method_40_code 23 = .ok (.ldc 227, 2) := by decide +kernel
theorem dj52_40_25 : decode jdk_52_method_40_code 25 = .ok (.if_icmp .ge 11, 3) := by decide +kernel
theorem dj52_40_28 : decode jdk_52_method_40_code 28 = .ok (.aload_n 0, 1) := by decide +kernel
theorem dj52_40_29 : decode jdk_52_method_40_code 29 = .ok (.iload_n 1, 1) := by decide +kernel
theorem dj52_40_30 : decode jdk_52_method_40_code 30 = .ok (.iload_n 2, 1) := by decide +kernel
theorem dj52_40_31 : decode jdk_52_method_40_code 31 = .ok (.iload_n 3, 1) := by decide +kernel
theorem dj52_40_32 : decode jdk_52_method_40_code 32 = .ok (.invokestatic 228, 3) := by decide +kernel
theorem dj52_40_35 : decode jdk_52_method_40_code 35 = .ok (.ireturn, 1) := by decide +kernel
theorem dj52_40_5 : decode jdk_52_method_40_code 5 = .ok (.istore_n 2, 1) := by decide +kernel
theorem dj52_40_6 : decode jdk_52_method_40_code 6 = .ok (.iload_n 3, 1) := by decide +kernel
theorem dj52_40_7 : decode jdk_52_method_40_code 7 = .ok (.aload_n 0, 1) := by decide +kernel
theorem dj52_40_8 : decode jdk_52_method_40_code 8 = .ok (.arraylength, 1) := by decide +kernel
theorem dj52_40_9 : decode jdk_52_method_40_code 9 = .ok (.iconst 1, 1) := by decide +kernel
theorem dj52_47_0 : decode jdk_52_method_47_code 0 = .ok (.iload_n 2, 1) := by decide +kernel
theorem dj52_47_1 : decode jdk_52_method_47_code 1 = .ok (.iload_n 3, 1) := by decide +kernel
theorem dj52_47_10 : decode jdk_52_method_47_code 10 = .ok (.invokestatic 244, 3) := by decide +kernel
theorem dj52_47_13 : decode jdk_52_method_47_code 13 = .ok (.ireturn, 1) := by decide +kernel
theorem dj52_47_2 : decode jdk_52_method_47_code 2 = .ok (.aload_n 0, 1) := by decide +kernel
theorem dj52_47_3 : decode jdk_52_method_47_code 3 = .ok (.invokestatic 96, 3) := by decide +kernel
theorem dj52_47_6 : decode jdk_52_method_47_code 6 = .ok (.aload_n 0, 1) := by decide +kernel
theorem dj52_47_7 : decode jdk_52_method_47_code 7 = .ok (.iload_n 1, 1) := by decide +kernel
theorem dj52_47_8 : decode jdk_52_method_47_code 8 = .ok (.iload_n 2, 1) := by decide +kernel
theorem dj52_47_9 : decode jdk_52_method_47_code 9 = .ok (.iload_n 3, 1) := by decide +kernel
theorem dj52_48_0 : decode jdk_52_method_48_code 0 = .ok (.iload_n 2, 1) := by decide +kernel
theorem dj52_48_1 : decode jdk_52_method_48_code 1 = .ok (.istore 4, 2) := by decide +kernel
theorem dj52_48_10 : decode jdk_52_method_48_code 10 = .ok (.iload 4, 2) := by decide +kernel
theorem dj52_48_12 : decode jdk_52_method_48_code 12 = .ok (.invokestatic 71, 3) := by decide +kernel
theorem dj52_48_15 : decode jdk_52_method_48_code 15 = .ok (.iload_n 1, 1) := by decide +kernel
theorem dj52_48_16 : decode jdk_52_method_48_code 16 = .ok (.if_icmp .ne 6, 3) := by decide +kernel
theorem dj52_48_19 : decode jdk_52_method_48_code 19 = .ok (.iload 4, 2) := by decide +kernel
theorem dj52_48_21 : decode jdk_52_method_48_code 21 = .ok (.ireturn, 1) := by decide +kernel
theorem dj52_48_22 : decode jdk_52_method_48_code 22 = .ok (.iinc 4 1, 3) := by decide +kernel
theorem dj52_48_25 : decode jdk_52_method_48_code 25 = .ok (.goto (-22), 3) := by decide +kernel
theorem dj52_48_28 : decode jdk_52_method_48_code 28 = .ok (.iconst (-1), 1) := by decide +kernel
theorem dj52_48_29 : decode jdk_52_method_48_code 29 = .ok (.ireturn, 1) := by decide +kernel
theorem dj52_48_3 : decode jdk_52_method_48_code 3 = .ok (.iload 4, 2) := by decide +kernel
theorem dj52_48_5 : decode jdk_52_method_48_code 5 = .ok (.iload_n 3, 1) := by decide +kernel
theorem dj52_48_6 : decode jdk_52_method_48_code 6 = .ok (.if_icmp .ge 22, 3) := by decide +kernel
theorem dj52_48_9 : decode jdk_52_method_48_code 9 = .ok (.aload_n 0, 1) := by decide +kernel
theorem dj52_4_0 : decode jdk_52_method_4_code 0 = .ok (.getstatic 44, 3) := by decide +kernel
theorem dj52_4_28 : decode jdk_52_method_4_code 28 = .ok (.iload_n 1, 1) := by decide +kernel
theorem dj52_4_29 : decode jdk_52_method_4_code 29 = .ok (.iconst 1, 1) := by decide +kernel
theorem dj52_4_3 : decode jdk_52_method_4_code 3 = .ok (.ifCond .ne 25, 3) := by decide +kernel
theorem dj52_4_30 : decode jdk_52_method_4_code 30 = .ok (.ishl, 1) := by decide +kernel
theorem dj52_4_31 : decode jdk_52_method_4_code 31 = .ok (.istore_n 1, 1) := by decide +kernel
theorem dj52_4_32 : decode jdk_52_method_4_code 32 = .ok (.aload_n 0, 1) := by decide +kernel
theorem dj52_4_33 : decode jdk_52_method_4_code 33 = .ok (.iload_n 1, 1) := by decide +kernel
theorem dj52_4_34 : decode jdk_52_method_4_code 34 = .ok (.iinc 1 1, 3) := by decide +kernel
theorem dj52_4_37 : decode jdk_52_method_4_code 37 = .ok (.iload_n 2, 1) := by decide +kernel
theorem dj52_4_38 : decode jdk_52_method_4_code 38 = .ok (.getstatic 59, 3) := by decide +kernel
theorem dj52_4_41 : decode jdk_52_method_4_code 41 = .ok (.ishr, 1) := by decide +kernel
theorem dj52_4_42 : decode jdk_52_method_4_code 42 = .ok (.i2b, 1) := by decide +kernel
theorem dj52_4_43 : decode jdk_52_method_4_code 43 = .ok (.bastore, 1) := by decide +kernel
theorem dj52_4_44 : decode jdk_52_method_4_code 44 = .ok (.aload_n 0, 1) := by decide +kernel
theorem dj52_4_45 : decode jdk_52_method_4_code 45 = .ok (.iload_n 1, 1) := by decide +kernel
theorem dj52_4_46 : decode jdk_52_method_4_code 46 = .ok (.iload_n 2, 1) := by decide +kernel
theorem dj52_4_47 : decode jdk_52_method_4_code 47 = .ok (.getstatic 63, 3) := by decide +kernel
theorem dj52_4_50 : decode jdk_52_method_4_code 50 = .ok (.ishr, 1) := by decide +kernel
theorem dj52_4_51 : decode jdk_52_method_4_code 51 = .ok (.i2b, 1) := by decide +kernel
theorem dj52_4_52 : decode jdk_52_method_4_code 52 = .ok (.bastore, 1) := by decide +kernel
theorem dj52_4_53 : decode jdk_52_method_4_code 53 = .ok (.return_, 1) := by decide +kernel
theorem dj52_5_0 : decode jdk_52_method_5_code 0 = .ok (.getstatic 44, 3) := by decide +kernel
theorem dj52_5_28 : decode jdk_52_method_5_code 28 = .ok (.iload_n 1, 1) := by decide +kernel
theorem dj52_5_29 : decode jdk_52_method_5_code 29 = .ok (.iconst 1, 1) := by decide +kernel
theorem dj52_5_3 : decode jdk_52_method_5_code 3 = .ok (.ifCond .ne 25, 3) := by decide +kernel
theorem dj52_5_30 : decode jdk_52_method_5_code 30 = .ok (.ishl, 1) := by decide +kernel
theorem dj52_5_31 : decode jdk_52_method_5_code 31 = .ok (.istore_n 1, 1) := by decide +kernel
theorem dj52_5_32 : decode jdk_52_method_5_code 32 = .ok (.aload_n 0, 1) := by decide +kernel
theorem dj52_5_33 : decode jdk_52_method_5_code 33 = .ok (.iload_n 1, 1) := by decide +kernel
theorem dj52_5_34 : decode jdk_52_method_5_code 34 = .ok (.iinc 1 1, 3) := by decide +kernel
theorem dj52_5_37 : decode jdk_52_method_5_code 37 = .ok (.baload, 1) := by decide +kernel
theorem dj52_5_38 : decode jdk_52_method_5_code 38 = .ok (.sipush 255, 3) := by decide +kernel
theorem dj52_5_41 : decode jdk_52_method_5_code 41 = .ok (.iand, 1) := by decide +kernel
theorem dj52_5_42 : decode jdk_52_method_5_code 42 = .ok (.getstatic 59, 3) := by decide +kernel
theorem dj52_5_45 : decode jdk_52_method_5_code 45 = .ok (.ishl, 1) := by decide +kernel
theorem dj52_5_46 : decode jdk_52_method_5_code 46 = .ok (.aload_n 0, 1) := by decide +kernel
theorem dj52_5_47 : decode jdk_52_method_5_code 47 = .ok (.iload_n 1, 1) := by decide +kernel
theorem dj52_5_48 : decode jdk_52_method_5_code 48 = .ok (.baload, 1) := by decide +kernel
theorem dj52_5_49 : decode jdk_52_method_5_code 49 = .ok (.sipush 255, 3) := by decide +kernel
theorem dj52_5_52 : decode jdk_52_method_5_code 52 = .ok (.iand, 1) := by decide +kernel
theorem dj52_5_53 : decode jdk_52_method_5_code 53 = .ok (.getstatic 63, 3) := by decide +kernel
theorem dj52_5_56 : decode jdk_52_method_5_code 56 = .ok (.ishl, 1) := by decide +kernel
theorem dj52_5_57 : decode jdk_52_method_5_code 57 = .ok (.ior, 1) := by decide +kernel
theorem dj52_5_58 : decode jdk_52_method_5_code 58 = .ok (.i2c, 1) := by decide +kernel
theorem dj52_5_59 : decode jdk_52_method_5_code 59 = .ok (.ireturn, 1) := by decide +kernel
theorem dj52_6_0 : decode jdk_52_method_6_code 0 = .ok (.aload_n 0, 1) := by decide +kernel
theorem dj52_6_1 : decode jdk_52_method_6_code 1 = .ok (.arraylength, 1) := by decide +kernel
theorem dj52_6_2 : decode jdk_52_method_6_code 2 = .ok (.iconst 1, 1) := by decide +kernel
theorem dj52_6_3 : decode jdk_52_method_6_code 3 = .ok (.ishr, 1) := by decide +kernel
theorem dj52_6_4 : decode jdk_52_method_6_code 4 = .ok (.ireturn, 1) := by decide +kernel
theorem dj52_93_0 : decode jdk_52_method_93_code 0 = .ok (.iload_n 0, 1) := by decide +kernel
theorem dj52_93_1 : decode jdk_52_method_93_code 1 = .ok (.iload_n 1, 1) := by decide +kernel
theorem dj52_93_2 : decode jdk_52_method_93_code 2 = .ok (.aload_n 2, 1) := by decide +kernel
theorem dj52_93_3 : decode jdk_52_method_93_code 3 = .ok (.invokestatic 48, 3) := by decide +kernel
theorem dj52_93_6 : decode jdk_52_method_93_code 6 = .ok (.invokestatic 241, 3) := by decide +kernel
theorem dj52_93_9 : decode jdk_52_method_93_code 9 = .ok (.return_, 1) := by decide +kernel
theorem d_method_3_0 : decode method_3_code 0 = .ok (.iload_n 0, 1) := by decide +kernel
theorem d_method_3_1 : decode method_3_code 1 = .ok (.iconst 3, 1) := by decide +kernel
theorem d_method_3_10 : decode method_3_code 10 = .ok (.ireturn, 1) := by decide +kernel
theorem d_method_3_11 : decode method_3_code 11 = .ok (.iload_n 1, 1) := by decide +kernel
theorem d_method_3_12 : decode method_3_code 12 = .ok (.iconst 1, 1) := by decide +kernel
theorem d_method_3_13 : decode method_3_code 13 = .ok (.if_icmp .ne 6, 3) := by decide +kernel
theorem d_method_3_16 : decode method_3_code 16 = .ok (.bipush 63, 2) := by decide +kernel
theorem d_method_3_18 : decode method_3_code 18 = .ok (.ireturn, 1) := by decide +kernel
theorem d_method_3_19 : decode method_3_code 19 = .ok (.iload_n 0, 1) := by decide +kernel
theorem d_method_3_2 : decode method_3_code 2 = .ok (.iand, 1) := by decide +kernel
theorem d_method_3_20 : decode method_3_code 20 = .ok (.iconst 2, 1) := by decide +kernel
theorem d_method_3_21 : decode method_3_code 21 = .ok (.iushr, 1) := by decide +kernel
theorem d_method_3_22 : decode method_3_code 22 = .ok (.ldc 29, 2) := by decide +kernel
theorem d_method_3_24 : decode method_3_code 24 = .ok (.iand, 1) := by decide +kernel
theorem d_method_3_25 : decode method_3_code 25 = .ok (.i2c, 1) := by decide +kernel
theorem d_method_3_26 : decode method_3_code 26 = .ok (.ireturn, 1) := by decide +kernel
theorem d_method_3_3 : decode method_3_code 3 = .ok (.istore_n 1, 1) := by decide +kernel
theorem d_method_3_4 : decode method_3_code 4 = .ok (.iload_n 1, 1) := by decide +kernel
theorem d_method_3_5 : decode method_3_code 5 = .ok (.ifCond .ne 6, 3) := by decide +kernel
theorem d_method_3_8 : decode method_3_code 8 = .ok (.bipush 42, 2) := by decide +kernel
theorem d_method_4_0 : decode method_4_code 0 = .ok (.iload_n 0, 1) := by decide +kernel
theorem d_method_4_1 : decode method_4_code 1 = .ok (.bipush 42, 2) := by decide +kernel
theorem d_method_4_12 : decode method_4_code 12 = .ok (.iconst 1, 1) := by decide +kernel
theorem d_method_4_13 : decode method_4_code 13 = .ok (.goto 4, 3) := by decide +kernel
theorem d_method_4_16 : decode method_4_code 16 = .ok (.iconst 0, 1) := by decide +kernel
theorem d_method_4_17 : decode method_4_code 17 = .ok (.ireturn, 1) := by decide +kernel
theorem d_method_4_3 : decode method_4_code 3 = .ok (.if_icmp .eq 9, 3) := by decide +kernel
theorem d_method_4_6 : decode method_4_code 6 = .ok (.iload_n 0, 1) := by decide +kernel
theorem d_method_4_7 : decode method_4_code 7 = .ok (.bipush 63, 2) := by decide +kernel
theorem d_method_4_9 : decode method_4_code 9 = .ok (.if_icmp .ne 7, 3) := by decide +kernel
theorem dp20_2_0 : decode prog_20_method_2_code 0 = .ok (.aload_n 0, 1) := by decide +kernel
theorem dp20_2_1 : decode prog_20_method_2_code 1 = .ok (.bipush 42, 2) := by decide +kernel
theorem dp20_2_10 : decode prog_20_method_2_code 10 = .ok (.bipush 63, 2) := by decide +kernel
theorem dp20_2_12 : decode prog_20_method_2_code 12 = .ok (.invokevirtual 21, 3) := by decide +kernel
theorem dp20_2_15 : decode prog_20_method_2_code 15 = .ok (.ifCond .lt 7, 3) := by decide +kernel
theorem dp20_2_18 : decode prog_20_method_2_code 18 = .ok (.iconst 1, 1) := by decide +kernel
theorem dp20_2_19 : decode prog_20_method_2_code 19 = .ok (.goto 4, 3) := by decide +kernel
theorem dp20_2_22 : decode prog_20_method_2_code 22 = .ok (.iconst 0, 1) := by decide +kernel
theorem dp20_2_23 : decode prog_20_method_2_code 23 = .ok (.ireturn, 1) := by decide +kernel
theorem dp20_2_3 : decode prog_20_method_2_code 3 = .ok (.invokevirtual 21, 3) := by decide +kernel
theorem dp20_2_6 : decode prog_20_method_2_code 6 = .ok (.ifCond .ge 12, 3) := by decide +kernel
theorem dp20_2_9 : decode prog_20_method_2_code 9 = .ok (.aload_n 0, 1) := by decide +kernel
theorem w_0 {Z : State} {a0 : Array Value} (hw : ∀ d ∈ tables_1, d.before a0 Z = true) : ((Jvm.Cond.constant "com/example/ullr/ullr/files/GlobIsGlobPinLaw" (7 : Nat) (2147483647 : Int32)) : Jvm.Cond).before a0 Z = true := hw _ (List.mem_of_getElem? (i := 0) rfl)
theorem w_1 {Z : State} {a0 : Array Value} (hw : ∀ d ∈ tables_1, d.before a0 Z = true) : ((Jvm.Cond.methodLink "com/example/ullr/ullr/files/GlobIsGlobPinLaw" (8 : Nat) ({ cls := "com/example/ullr/ullr/files/GlobIsGlobPinLaw", name := "draw", desc := "(I)C" } : Jvm.MethodName)) : Jvm.Cond).before a0 Z = true := hw _ (List.mem_of_getElem? (i := 1) rfl)
theorem w_2 {Z : State} {a0 : Array Value} (hw : ∀ d ∈ tables_1, d.before a0 Z = true) : ((Jvm.Cond.static ({ cls := "com/example/ullr/ullr/files/GlobIsGlobPinLaw", name := "draw", desc := "(I)C" } : Jvm.MethodName)) : Jvm.Cond).before a0 Z = true := hw _ (List.mem_of_getElem? (i := 2) rfl)
theorem w_3 {Z : State} {a0 : Array Value} (hw : ∀ d ∈ tables_1, d.before a0 Z = true) : ((Jvm.Cond.initialized "com/example/ullr/ullr/files/GlobIsGlobPinLaw") : Jvm.Cond).before a0 Z = true := hw _ (List.mem_of_getElem? (i := 3) rfl)
theorem w_4 {Z : State} {a0 : Array Value} (hw : ∀ d ∈ tables_1, d.before a0 Z = true) : ((Jvm.Cond.code ({ cls := "com/example/ullr/ullr/files/GlobIsGlobPinLaw", name := "draw", desc := "(I)C" } : Jvm.MethodName) method_3_code (2 : Nat) (Option.some Jvm.ClassFile.FieldType.char)) : Jvm.Cond).before a0 Z = true := hw _ (List.mem_of_getElem? (i := 4) rfl)
theorem w_5 {Z : State} {a0 : Array Value} (hw : ∀ d ∈ tables_1, d.before a0 Z = true) : ((Jvm.Cond.constant "com/example/ullr/ullr/files/GlobIsGlobPinLaw" (29 : Nat) (65535 : Int32)) : Jvm.Cond).before a0 Z = true := hw _ (List.mem_of_getElem? (i := 5) rfl)
theorem w_6 {Z : State} {a0 : Array Value} (hw : ∀ d ∈ tables_1, d.before a0 Z = true) : ((Jvm.Cond.arrayClass Jvm.ClassFile.FieldType.char) : Jvm.Cond).before a0 Z = true := hw _ (List.mem_of_getElem? (i := 6) rfl)
theorem w_7 {Z : State} {a0 : Array Value} (hw : ∀ d ∈ tables_1, d.before a0 Z = true) : ((Jvm.Cond.classLink "com/example/ullr/ullr/files/GlobIsGlobPinLaw" (14 : Nat) "java/lang/String") : Jvm.Cond).before a0 Z = true := hw _ (List.mem_of_getElem? (i := 7) rfl)
theorem w_8 {Z : State} {a0 : Array Value} (hw : ∀ d ∈ tables_1, d.before a0 Z = true) : ((Jvm.Cond.instantiable "java/lang/String" (4 : Nat)) : Jvm.Cond).before a0 Z = true := hw _ (List.mem_of_getElem? (i := 8) rfl)
theorem w_9 {Z : State} {a0 : Array Value} (hw : ∀ d ∈ tables_1, d.before a0 Z = true) : ((Jvm.Cond.initialized "java/lang/String") : Jvm.Cond).before a0 Z = true := hw _ (List.mem_of_getElem? (i := 9) rfl)
theorem w_10 {Z : State} {a0 : Array Value} (hw : ∀ d ∈ tables_1, d.before a0 Z = true) : ((Jvm.Cond.methodLink "com/example/ullr/ullr/files/GlobIsGlobPinLaw" (16 : Nat) ({ cls := "java/lang/String", name := "<init>", desc := "([C)V" } : Jvm.MethodName)) : Jvm.Cond).before a0 Z = true := hw _ (List.mem_of_getElem? (i := 10) rfl)
theorem w_11 {Z : State} {a0 : Array Value} (hw : ∀ d ∈ tables_1, d.before a0 Z = true) : ((Jvm.Cond.instanceMethod ({ cls := "java/lang/String", name := "<init>", desc := "([C)V" } : Jvm.MethodName)) : Jvm.Cond).before a0 Z = true := hw _ (List.mem_of_getElem? (i := 11) rfl)
theorem w_12 {Z : State} {a0 : Array Value} (hw : ∀ d ∈ tables_1, d.before a0 Z = true) : ((Jvm.Cond.code ({ cls := "java/lang/String", name := "<init>", desc := "([C)V" } : Jvm.MethodName) jdk_42_method_3_code (2 : Nat) (Option.none : Option Jvm.ClassFile.FieldType)) : Jvm.Cond).before a0 Z = true := hw _ (List.mem_of_getElem? (i := 12) rfl)
theorem w_13 {Z : State} {a0 : Array Value} (hw : ∀ d ∈ tables_1, d.before a0 Z = true) : ((Jvm.Cond.methodLink "java/lang/String" (27 : Nat) ({ cls := "java/lang/String", name := "<init>", desc := "([CIILjava/lang/Void;)V" } : Jvm.MethodName)) : Jvm.Cond).before a0 Z = true := hw _ (List.mem_of_getElem? (i := 13) rfl)
theorem w_14 {Z : State} {a0 : Array Value} (hw : ∀ d ∈ tables_1, d.before a0 Z = true) : ((Jvm.Cond.instanceMethod ({ cls := "java/lang/String", name := "<init>", desc := "([CIILjava/lang/Void;)V" } : Jvm.MethodName)) : Jvm.Cond).before a0 Z = true := hw _ (List.mem_of_getElem? (i := 14) rfl)
theorem w_16 {Z : State} {a0 : Array Value} (hw : ∀ d ∈ tables_1, d.before a0 Z = true) : ((Jvm.Cond.code ({ cls := "java/lang/String", name := "<init>", desc := "([CIILjava/lang/Void;)V" } : Jvm.MethodName) jdk_42_method_149_code (6 : Nat) (Option.none : Option Jvm.ClassFile.FieldType)) : Jvm.Cond).before a0 Z = true := hw _ (List.mem_of_getElem? (i := 16) rfl)
theorem w_17 {Z : State} {a0 : Array Value} (hw : ∀ d ∈ tables_1, d.before a0 Z = true) : ((Jvm.Cond.methodLink "java/lang/String" (1 : Nat) ({ cls := "java/lang/Object", name := "<init>", desc := "()V" } : Jvm.MethodName)) : Jvm.Cond).before a0 Z = true := hw _ (List.mem_of_getElem? (i := 17) rfl)
theorem w_18 {Z : State} {a0 : Array Value} (hw : ∀ d ∈ tables_1, d.before a0 Z = true) : ((Jvm.Cond.instanceMethod ({ cls := "java/lang/Object", name := "<init>", desc := "()V" } : Jvm.MethodName)) : Jvm.Cond).before a0 Z = true := hw _ (List.mem_of_getElem? (i := 18) rfl)
theorem w_19 {Z : State} {a0 : Array Value} (hw : ∀ d ∈ tables_1, d.before a0 Z = true) : ((Jvm.Cond.code ({ cls := "java/lang/Object", name := "<init>", desc := "()V" } : Jvm.MethodName) object_method_1_code (1 : Nat) (Option.none : Option Jvm.ClassFile.FieldType)) : Jvm.Cond).before a0 Z = true := hw _ (List.mem_of_getElem? (i := 19) rfl)
theorem w_20 {Z : State} {a0 : Array Value} (hw : ∀ d ∈ tables_1, d.before a0 Z = true) : ((Jvm.Cond.stringLink "java/lang/String" (7 : Nat) "") : Jvm.Cond).before a0 Z = true := hw _ (List.mem_of_getElem? (i := 20) rfl)
theorem w_21 {Z : State} {a0 : Array Value} (hw : ∀ d ∈ tables_1, d.before a0 Z = true) : ((Jvm.Cond.arrayClass Jvm.ClassFile.FieldType.byte) : Jvm.Cond).before a0 Z = true := hw _ (List.mem_of_getElem? (i := 21) rfl)
theorem w_22 {Z : State} {a0 : Array Value} (hw : ∀ d ∈ tables_1, d.before a0 Z = true) : ((Jvm.Cond.laysFinal "java/lang/String" "java/lang/String" "value" "[B") : Jvm.Cond).before a0 Z = true := hw _ (List.mem_of_getElem? (i := 22) rfl)
theorem w_23 {Z : State} {a0 : Array Value} (hw : ∀ d ∈ tables_1, d.before a0 Z = true) : ((Jvm.Cond.laysFinal "java/lang/String" "java/lang/String" "coder" "B") : Jvm.Cond).before a0 Z = true := hw _ (List.mem_of_getElem? (i := 23) rfl)
theorem w_26 {Z : State} {a0 : Array Value} (hw : ∀ d ∈ tables_1, d.before a0 Z = true) : ((Jvm.Cond.fieldLink "java/lang/String" (9 : Nat) "java/lang/String" "value" "[B") : Jvm.Cond).before a0 Z = true := hw _ (List.mem_of_getElem? (i := 26) rfl)
theorem w_27 {Z : State} {a0 : Array Value} (hw : ∀ d ∈ tables_1, d.before a0 Z = true) : ((Jvm.Cond.fieldLink "java/lang/String" (15 : Nat) "java/lang/String" "coder" "B") : Jvm.Cond).before a0 Z = true := hw _ (List.mem_of_getElem? (i := 27) rfl)
theorem w_28 {Z : State} {a0 : Array Value} (hw : ∀ d ∈ tables_1, d.before a0 Z = true) : ((Jvm.Cond.methodLink "com/example/ullr/ullr/files/GlobIsGlobPinLaw" (23 : Nat) ({ cls := "com/example/ullr/ullr/files/Glob", name := "isGlob", desc := "(Ljava/lang/String;)Z" } : Jvm.MethodName)) : Jvm.Cond).before a0 Z = true := hw _ (List.mem_of_getElem? (i := 28) rfl)
theorem w_29 {Z : State} {a0 : Array Value} (hw : ∀ d ∈ tables_1, d.before a0 Z = true) : ((Jvm.Cond.static ({ cls := "com/example/ullr/ullr/files/Glob", name := "isGlob", desc := "(Ljava/lang/String;)Z" } : Jvm.MethodName)) : Jvm.Cond).before a0 Z = true := hw _ (List.mem_of_getElem? (i := 29) rfl)
theorem w_30 {Z : State} {a0 : Array Value} (hw : ∀ d ∈ tables_1, d.before a0 Z = true) : ((Jvm.Cond.initialized "com/example/ullr/ullr/files/Glob") : Jvm.Cond).before a0 Z = true := hw _ (List.mem_of_getElem? (i := 30) rfl)
theorem w_31 {Z : State} {a0 : Array Value} (hw : ∀ d ∈ tables_1, d.before a0 Z = true) : ((Jvm.Cond.code ({ cls := "com/example/ullr/ullr/files/Glob", name := "isGlob", desc := "(Ljava/lang/String;)Z" } : Jvm.MethodName) prog_20_method_2_code (1 : Nat) (Option.some Jvm.ClassFile.FieldType.boolean)) : Jvm.Cond).before a0 Z = true := hw _ (List.mem_of_getElem? (i := 31) rfl)
theorem w_32 {Z : State} {a0 : Array Value} (hw : ∀ d ∈ tables_1, d.before a0 Z = true) : ((Jvm.Cond.methodLink "com/example/ullr/ullr/files/Glob" (21 : Nat) ({ cls := "java/lang/String", name := "indexOf", desc := "(I)I" } : Jvm.MethodName)) : Jvm.Cond).before a0 Z = true := hw _ (List.mem_of_getElem? (i := 32) rfl)
theorem w_33 {Z : State} {a0 : Array Value} (hw : ∀ d ∈ tables_1, d.before a0 Z = true) : ((Jvm.Cond.declares ({ cls := "java/lang/String", name := "indexOf", desc := "(I)I" } : Jvm.MethodName)) : Jvm.Cond).before a0 Z = true := hw _ (List.mem_of_getElem? (i := 33) rfl)
theorem w_34 {Z : State} {a0 : Array Value} (hw : ∀ d ∈ tables_1, d.before a0 Z = true) : ((Jvm.Cond.instanceMethod ({ cls := "java/lang/String", name := "indexOf", desc := "(I)I" } : Jvm.MethodName)) : Jvm.Cond).before a0 Z = true := hw _ (List.mem_of_getElem? (i := 34) rfl)
theorem w_35 {Z : State} {a0 : Array Value} (hw : ∀ d ∈ tables_1, d.before a0 Z = true) : ((Jvm.Cond.selects "java/lang/String" ({ cls := "java/lang/String", name := "indexOf", desc := "(I)I" } : Jvm.MethodName) ({ cls := "java/lang/String", name := "indexOf", desc := "(I)I" } : Jvm.MethodName)) : Jvm.Cond).before a0 Z = true := hw _ (List.mem_of_getElem? (i := 35) rfl)
theorem w_36 {Z : State} {a0 : Array Value} (hw : ∀ d ∈ tables_1, d.before a0 Z = true) : ((Jvm.Cond.code ({ cls := "java/lang/String", name := "indexOf", desc := "(I)I" } : Jvm.MethodName) jdk_42_method_79_code (2 : Nat) (Option.some Jvm.ClassFile.FieldType.int)) : Jvm.Cond).before a0 Z = true := hw _ (List.mem_of_getElem? (i := 36) rfl)
theorem w_37 {Z : State} {a0 : Array Value} (hw : ∀ d ∈ tables_1, d.before a0 Z = true) : ((Jvm.Cond.methodLink "java/lang/String" (633 : Nat) ({ cls := "java/lang/String", name := "indexOf", desc := "(II)I" } : Jvm.MethodName)) : Jvm.Cond).before a0 Z = true := hw _ (List.mem_of_getElem? (i := 37) rfl)
theorem w_38 {Z : State} {a0 : Array Value} (hw : ∀ d ∈ tables_1, d.before a0 Z = true) : ((Jvm.Cond.declares ({ cls := "java/lang/String", name := "indexOf", desc := "(II)I" } : Jvm.MethodName)) : Jvm.Cond).before a0 Z = true := hw _ (List.mem_of_getElem? (i := 38) rfl)
theorem w_39 {Z : State} {a0 : Array Value} (hw : ∀ d ∈ tables_1, d.before a0 Z = true) : ((Jvm.Cond.instanceMethod ({ cls := "java/lang/String", name := "indexOf", desc := "(II)I" } : Jvm.MethodName)) : Jvm.Cond).before a0 Z = true := hw _ (List.mem_of_getElem? (i := 39) rfl)
theorem w_40 {Z : State} {a0 : Array Value} (hw : ∀ d ∈ tables_1, d.before a0 Z = true) : ((Jvm.Cond.selects "java/lang/String" ({ cls := "java/lang/String", name := "indexOf", desc := "(II)I" } : Jvm.MethodName) ({ cls := "java/lang/String", name := "indexOf", desc := "(II)I" } : Jvm.MethodName)) : Jvm.Cond).before a0 Z = true := hw _ (List.mem_of_getElem? (i := 40) rfl)
theorem w_41 {Z : State} {a0 : Array Value} (hw : ∀ d ∈ tables_1, d.before a0 Z = true) : ((Jvm.Cond.code ({ cls := "java/lang/String", name := "indexOf", desc := "(II)I" } : Jvm.MethodName) jdk_42_method_80_code (3 : Nat) (Option.some Jvm.ClassFile.FieldType.int)) : Jvm.Cond).before a0 Z = true := hw _ (List.mem_of_getElem? (i := 41) rfl)
theorem w_42 {Z : State} {a0 : Array Value} (hw : ∀ d ∈ tables_1, d.before a0 Z = true) : ((Jvm.Cond.methodLink "java/lang/String" (492 : Nat) ({ cls := "java/lang/String", name := "isLatin1", desc := "()Z" } : Jvm.MethodName)) : Jvm.Cond).before a0 Z = true := hw _ (List.mem_of_getElem? (i := 42) rfl)
theorem w_43 {Z : State} {a0 : Array Value} (hw : ∀ d ∈ tables_1, d.before a0 Z = true) : ((Jvm.Cond.declares ({ cls := "java/lang/String", name := "isLatin1", desc := "()Z" } : Jvm.MethodName)) : Jvm.Cond).before a0 Z = true := hw _ (List.mem_of_getElem? (i := 43) rfl)
theorem w_44 {Z : State} {a0 : Array Value} (hw : ∀ d ∈ tables_1, d.before a0 Z = true) : ((Jvm.Cond.instanceMethod ({ cls := "java/lang/String", name := "isLatin1", desc := "()Z" } : Jvm.MethodName)) : Jvm.Cond).before a0 Z = true := hw _ (List.mem_of_getElem? (i := 44) rfl)
theorem w_45 {Z : State} {a0 : Array Value} (hw : ∀ d ∈ tables_1, d.before a0 Z = true) : ((Jvm.Cond.selects "java/lang/String" ({ cls := "java/lang/String", name := "isLatin1", desc := "()Z" } : Jvm.MethodName) ({ cls := "java/lang/String", name := "isLatin1", desc := "()Z" } : Jvm.MethodName)) : Jvm.Cond).before a0 Z = true := hw _ (List.mem_of_getElem? (i := 45) rfl)
theorem w_46 {Z : State} {a0 : Array Value} (hw : ∀ d ∈ tables_1, d.before a0 Z = true) : ((Jvm.Cond.code ({ cls := "java/lang/String", name := "isLatin1", desc := "()Z" } : Jvm.MethodName) jdk_42_method_154_code (1 : Nat) (Option.some Jvm.ClassFile.FieldType.boolean)) : Jvm.Cond).before a0 Z = true := hw _ (List.mem_of_getElem? (i := 46) rfl)
theorem w_47 {Z : State} {a0 : Array Value} (hw : ∀ d ∈ tables_1, d.before a0 Z = true) : ((Jvm.Cond.fieldLink "java/lang/String" (38 : Nat) "java/lang/String" "COMPACT_STRINGS" "Z") : Jvm.Cond).before a0 Z = true := hw _ (List.mem_of_getElem? (i := 47) rfl)
theorem w_48 {Z : State} {a0 : Array Value} (hw : ∀ d ∈ tables_1, d.before a0 Z = true) : ((Jvm.Cond.methodLink "java/lang/String" (505 : Nat) ({ cls := "java/lang/String", name := "length", desc := "()I" } : Jvm.MethodName)) : Jvm.Cond).before a0 Z = true := hw _ (List.mem_of_getElem? (i := 48) rfl)
theorem w_49 {Z : State} {a0 : Array Value} (hw : ∀ d ∈ tables_1, d.before a0 Z = true) : ((Jvm.Cond.declares ({ cls := "java/lang/String", name := "length", desc := "()I" } : Jvm.MethodName)) : Jvm.Cond).before a0 Z = true := hw _ (List.mem_of_getElem? (i := 49) rfl)
theorem w_50 {Z : State} {a0 : Array Value} (hw : ∀ d ∈ tables_1, d.before a0 Z = true) : ((Jvm.Cond.instanceMethod ({ cls := "java/lang/String", name := "length", desc := "()I" } : Jvm.MethodName)) : Jvm.Cond).before a0 Z = true := hw _ (List.mem_of_getElem? (i := 50) rfl)
theorem w_51 {Z : State} {a0 : Array Value} (hw : ∀ d ∈ tables_1, d.before a0 Z = true) : ((Jvm.Cond.selects "java/lang/String" ({ cls := "java/lang/String", name := "length", desc := "()I" } : Jvm.MethodName) ({ cls := "java/lang/String", name := "length", desc := "()I" } : Jvm.MethodName)) : Jvm.Cond).before a0 Z = true := hw _ (List.mem_of_getElem? (i := 51) rfl)
theorem w_52 {Z : State} {a0 : Array Value} (hw : ∀ d ∈ tables_1, d.before a0 Z = true) : ((Jvm.Cond.code ({ cls := "java/lang/String", name := "length", desc := "()I" } : Jvm.MethodName) jdk_42_method_54_code (1 : Nat) (Option.some Jvm.ClassFile.FieldType.int)) : Jvm.Cond).before a0 Z = true := hw _ (List.mem_of_getElem? (i := 52) rfl)
theorem w_53 {Z : State} {a0 : Array Value} (hw : ∀ d ∈ tables_1, d.before a0 Z = true) : ((Jvm.Cond.methodLink "java/lang/String" (335 : Nat) ({ cls := "java/lang/String", name := "coder", desc := "()B" } : Jvm.MethodName)) : Jvm.Cond).before a0 Z = true := hw _ (List.mem_of_getElem? (i := 53) rfl)
theorem w_54 {Z : State} {a0 : Array Value} (hw : ∀ d ∈ tables_1, d.before a0 Z = true) : ((Jvm.Cond.declares ({ cls := "java/lang/String", name := "coder", desc := "()B" } : Jvm.MethodName)) : Jvm.Cond).before a0 Z = true := hw _ (List.mem_of_getElem? (i := 54) rfl)
theorem w_55 {Z : State} {a0 : Array Value} (hw : ∀ d ∈ tables_1, d.before a0 Z = true) : ((Jvm.Cond.instanceMethod ({ cls := "java/lang/String", name := "coder", desc := "()B" } : Jvm.MethodName)) : Jvm.Cond).before a0 Z = true := hw _ (List.mem_of_getElem? (i := 55) rfl)
theorem w_56 {Z : State} {a0 : Array Value} (hw : ∀ d ∈ tables_1, d.before a0 Z = true) : ((Jvm.Cond.selects "java/lang/String" ({ cls := "java/lang/String", name := "coder", desc := "()B" } : Jvm.MethodName) ({ cls := "java/lang/String", name := "coder", desc := "()B" } : Jvm.MethodName)) : Jvm.Cond).before a0 Z = true := hw _ (List.mem_of_getElem? (i := 56) rfl)
theorem w_57 {Z : State} {a0 : Array Value} (hw : ∀ d ∈ tables_1, d.before a0 Z = true) : ((Jvm.Cond.code ({ cls := "java/lang/String", name := "coder", desc := "()B" } : Jvm.MethodName) jdk_42_method_152_code (1 : Nat) (Option.some Jvm.ClassFile.FieldType.byte)) : Jvm.Cond).before a0 Z = true := hw _ (List.mem_of_getElem? (i := 57) rfl)
theorem w_58 {Z : State} {a0 : Array Value} (hw : ∀ d ∈ tables_1, d.before a0 Z = true) : ((Jvm.Cond.methodLink "java/lang/String" (637 : Nat) ({ cls := "java/lang/StringLatin1", name := "indexOf", desc := "([BIII)I" } : Jvm.MethodName)) : Jvm.Cond).before a0 Z = true := hw _ (List.mem_of_getElem? (i := 58) rfl)
theorem w_59 {Z : State} {a0 : Array Value} (hw : ∀ d ∈ tables_1, d.before a0 Z = true) : ((Jvm.Cond.static ({ cls := "java/lang/StringLatin1", name := "indexOf", desc := "([BIII)I" } : Jvm.MethodName)) : Jvm.Cond).before a0 Z = true := hw _ (List.mem_of_getElem? (i := 59) rfl)
theorem w_60 {Z : State} {a0 : Array Value} (hw : ∀ d ∈ tables_1, d.before a0 Z = true) : ((Jvm.Cond.initialized "java/lang/StringLatin1") : Jvm.Cond).before a0 Z = true := hw _ (List.mem_of_getElem? (i := 60) rfl)
theorem w_61 {Z : State} {a0 : Array Value} (hw : ∀ d ∈ tables_1, d.before a0 Z = true) : ((Jvm.Cond.code ({ cls := "java/lang/StringLatin1", name := "indexOf", desc := "([BIII)I" } : Jvm.MethodName) jdk_43_method_22_code (4 : Nat) (Option.some Jvm.ClassFile.FieldType.int)) : Jvm.Cond).before a0 Z = true := hw _ (List.mem_of_getElem? (i := 61) rfl)
theorem w_62 {Z : State} {a0 : Array Value} (hw : ∀ d ∈ tables_1, d.before a0 Z = true) : ((Jvm.Cond.methodLink "java/lang/StringLatin1" (88 : Nat) ({ cls := "java/lang/StringLatin1", name := "canEncode", desc := "(I)Z" } : Jvm.MethodName)) : Jvm.Cond).before a0 Z = true := hw _ (List.mem_of_getElem? (i := 62) rfl)
theorem w_63 {Z : State} {a0 : Array Value} (hw : ∀ d ∈ tables_1, d.before a0 Z = true) : ((Jvm.Cond.static ({ cls := "java/lang/StringLatin1", name := "canEncode", desc := "(I)Z" } : Jvm.MethodName)) : Jvm.Cond).before a0 Z = true := hw _ (List.mem_of_getElem? (i := 63) rfl)
theorem w_64 {Z : State} {a0 : Array Value} (hw : ∀ d ∈ tables_1, d.before a0 Z = true) : ((Jvm.Cond.code ({ cls := "java/lang/StringLatin1", name := "canEncode", desc := "(I)Z" } : Jvm.MethodName) jdk_43_method_4_code (1 : Nat) (Option.some Jvm.ClassFile.FieldType.boolean)) : Jvm.Cond).before a0 Z = true := hw _ (List.mem_of_getElem? (i := 64) rfl)
theorem w_65 {Z : State} {a0 : Array Value} (hw : ∀ d ∈ tables_1, d.before a0 Z = true) : ((Jvm.Cond.methodLink "java/lang/StringLatin1" (92 : Nat) ({ cls := "java/lang/Math", name := "max", desc := "(II)I" } : Jvm.MethodName)) : Jvm.Cond).before a0 Z = true := hw _ (List.mem_of_getElem? (i := 65) rfl)
theorem w_66 {Z : State} {a0 : Array Value} (hw : ∀ d ∈ tables_1, d.before a0 Z = true) : ((Jvm.Cond.static ({ cls := "java/lang/Math", name := "max", desc := "(II)I" } : Jvm.MethodName)) : Jvm.Cond).before a0 Z = true := hw _ (List.mem_of_getElem? (i := 66) rfl)
theorem w_67 {Z : State} {a0 : Array Value} (hw : ∀ d ∈ tables_1, d.before a0 Z = true) : ((Jvm.Cond.initialized "java/lang/Math") : Jvm.Cond).before a0 Z = true := hw _ (List.mem_of_getElem? (i := 67) rfl)
theorem w_68 {Z : State} {a0 : Array Value} (hw : ∀ d ∈ tables_1, d.before a0 Z = true) : ((Jvm.Cond.code ({ cls := "java/lang/Math", name := "max", desc := "(II)I" } : Jvm.MethodName) jdk_29_method_65_code (2 : Nat) (Option.some Jvm.ClassFile.FieldType.int)) : Jvm.Cond).before a0 Z = true := hw _ (List.mem_of_getElem? (i := 68) rfl)
theorem w_69 {Z : State} {a0 : Array Value} (hw : ∀ d ∈ tables_1, d.before a0 Z = true) : ((Jvm.Cond.methodLink "java/lang/StringLatin1" (38 : Nat) ({ cls := "java/lang/Math", name := "min", desc := "(II)I" } : Jvm.MethodName)) : Jvm.Cond).before a0 Z = true := hw _ (List.mem_of_getElem? (i := 69) rfl)
theorem w_70 {Z : State} {a0 : Array Value} (hw : ∀ d ∈ tables_1, d.before a0 Z = true) : ((Jvm.Cond.static ({ cls := "java/lang/Math", name := "min", desc := "(II)I" } : Jvm.MethodName)) : Jvm.Cond).before a0 Z = true := hw _ (List.mem_of_getElem? (i := 70) rfl)
theorem w_71 {Z : State} {a0 : Array Value} (hw : ∀ d ∈ tables_1, d.before a0 Z = true) : ((Jvm.Cond.code ({ cls := "java/lang/Math", name := "min", desc := "(II)I" } : Jvm.MethodName) jdk_29_method_69_code (2 : Nat) (Option.some Jvm.ClassFile.FieldType.int)) : Jvm.Cond).before a0 Z = true := hw _ (List.mem_of_getElem? (i := 71) rfl)
theorem w_72 {Z : State} {a0 : Array Value} (hw : ∀ d ∈ tables_1, d.before a0 Z = true) : ((Jvm.Cond.methodLink "java/lang/String" (177 : Nat) ({ cls := "java/lang/StringUTF16", name := "compress", desc := "([CII)[B" } : Jvm.MethodName)) : Jvm.Cond).before a0 Z = true := hw _ (List.mem_of_getElem? (i := 72) rfl)
theorem w_73 {Z : State} {a0 : Array Value} (hw : ∀ d ∈ tables_1, d.before a0 Z = true) : ((Jvm.Cond.static ({ cls := "java/lang/StringUTF16", name := "compress", desc := "([CII)[B" } : Jvm.MethodName)) : Jvm.Cond).before a0 Z = true := hw _ (List.mem_of_getElem? (i := 73) rfl)
theorem w_74 {Z : State} {a0 : Array Value} (hw : ∀ d ∈ tables_1, d.before a0 Z = true) : ((Jvm.Cond.initialized "java/lang/StringUTF16") : Jvm.Cond).before a0 Z = true := hw _ (List.mem_of_getElem? (i := 74) rfl)
theorem w_75 {Z : State} {a0 : Array Value} (hw : ∀ d ∈ tables_1, d.before a0 Z = true) : ((Jvm.Cond.code ({ cls := "java/lang/StringUTF16", name := "compress", desc := "([CII)[B" } : Jvm.MethodName) jdk_52_method_16_code (6 : Nat) (Option.some (Jvm.ClassFile.FieldType.array Jvm.ClassFile.FieldType.byte))) : Jvm.Cond).before a0 Z = true := hw _ (List.mem_of_getElem? (i := 75) rfl)
theorem w_76 {Z : State} {a0 : Array Value} (hw : ∀ d ∈ tables_1, d.before a0 Z = true) : ((Jvm.Cond.methodLink "java/lang/StringUTF16" (115 : Nat) ({ cls := "java/lang/StringUTF16", name := "compress", desc := "([CI[BII)I" } : Jvm.MethodName)) : Jvm.Cond).before a0 Z = true := hw _ (List.mem_of_getElem? (i := 76) rfl)
theorem w_77 {Z : State} {a0 : Array Value} (hw : ∀ d ∈ tables_1, d.before a0 Z = true) : ((Jvm.Cond.static ({ cls := "java/lang/StringUTF16", name := "compress", desc := "([CI[BII)I" } : Jvm.MethodName)) : Jvm.Cond).before a0 Z = true := hw _ (List.mem_of_getElem? (i := 77) rfl)
theorem w_78 {Z : State} {a0 : Array Value} (hw : ∀ d ∈ tables_1, d.before a0 Z = true) : ((Jvm.Cond.code ({ cls := "java/lang/StringUTF16", name := "compress", desc := "([CI[BII)I" } : Jvm.MethodName) jdk_52_method_21_code (7 : Nat) (Option.some Jvm.ClassFile.FieldType.int)) : Jvm.Cond).before a0 Z = true := hw _ (List.mem_of_getElem? (i := 78) rfl)
theorem w_79 {Z : State} {a0 : Array Value} (hw : ∀ d ∈ tables_1, d.before a0 Z = true) : ((Jvm.Cond.methodLink "java/lang/String" (47 : Nat) ({ cls := "java/lang/StringUTF16", name := "coderFromArrayLen", desc := "([BI)B" } : Jvm.MethodName)) : Jvm.Cond).before a0 Z = true := hw _ (List.mem_of_getElem? (i := 79) rfl)
theorem w_80 {Z : State} {a0 : Array Value} (hw : ∀ d ∈ tables_1, d.before a0 Z = true) : ((Jvm.Cond.static ({ cls := "java/lang/StringUTF16", name := "coderFromArrayLen", desc := "([BI)B" } : Jvm.MethodName)) : Jvm.Cond).before a0 Z = true := hw _ (List.mem_of_getElem? (i := 80) rfl)
theorem w_81 {Z : State} {a0 : Array Value} (hw : ∀ d ∈ tables_1, d.before a0 Z = true) : ((Jvm.Cond.code ({ cls := "java/lang/StringUTF16", name := "coderFromArrayLen", desc := "([BI)B" } : Jvm.MethodName) jdk_52_method_15_code (2 : Nat) (Option.some Jvm.ClassFile.FieldType.byte)) : Jvm.Cond).before a0 Z = true := hw _ (List.mem_of_getElem? (i := 81) rfl)
theorem w_82 {Z : State} {a0 : Array Value} (hw : ∀ d ∈ tables_1, d.before a0 Z = true) : ((Jvm.Cond.methodLink "com/example/ullr/ullr/files/GlobIsGlobPinLaw" (19 : Nat) ({ cls := "com/example/ullr/ullr/files/GlobIsGlobPinLaw", name := "wild", desc := "(C)Z" } : Jvm.MethodName)) : Jvm.Cond).before a0 Z = true := hw _ (List.mem_of_getElem? (i := 82) rfl)
theorem w_83 {Z : State} {a0 : Array Value} (hw : ∀ d ∈ tables_1, d.before a0 Z = true) : ((Jvm.Cond.static ({ cls := "com/example/ullr/ullr/files/GlobIsGlobPinLaw", name := "wild", desc := "(C)Z" } : Jvm.MethodName)) : Jvm.Cond).before a0 Z = true := hw _ (List.mem_of_getElem? (i := 83) rfl)
theorem w_84 {Z : State} {a0 : Array Value} (hw : ∀ d ∈ tables_1, d.before a0 Z = true) : ((Jvm.Cond.code ({ cls := "com/example/ullr/ullr/files/GlobIsGlobPinLaw", name := "wild", desc := "(C)Z" } : Jvm.MethodName) method_4_code (1 : Nat) (Option.some Jvm.ClassFile.FieldType.boolean)) : Jvm.Cond).before a0 Z = true := hw _ (List.mem_of_getElem? (i := 84) rfl)
theorem w_85 {Z : State} {a0 : Array Value} (hw : ∀ d ∈ tables_1, d.before a0 Z = true) : ((Jvm.Cond.methodLink "java/lang/StringLatin1" (95 : Nat) ({ cls := "java/lang/StringLatin1", name := "indexOfChar", desc := "([BIII)I" } : Jvm.MethodName)) : Jvm.Cond).before a0 Z = true := hw _ (List.mem_of_getElem? (i := 85) rfl)
theorem w_86 {Z : State} {a0 : Array Value} (hw : ∀ d ∈ tables_1, d.before a0 Z = true) : ((Jvm.Cond.static ({ cls := "java/lang/StringLatin1", name := "indexOfChar", desc := "([BIII)I" } : Jvm.MethodName)) : Jvm.Cond).before a0 Z = true := hw _ (List.mem_of_getElem? (i := 86) rfl)
theorem w_87 {Z : State} {a0 : Array Value} (hw : ∀ d ∈ tables_1, d.before a0 Z = true) : ((Jvm.Cond.code ({ cls := "java/lang/StringLatin1", name := "indexOfChar", desc := "([BIII)I" } : Jvm.MethodName) jdk_43_method_23_code (6 : Nat) (Option.some Jvm.ClassFile.FieldType.int)) : Jvm.Cond).before a0 Z = true := hw _ (List.mem_of_getElem? (i := 87) rfl)
theorem w_88 {Z : State} {a0 : Array Value} (hw : ∀ d ∈ tables_1, d.before a0 Z = true) : ((Jvm.Cond.methodLink "java/lang/StringUTF16" (119 : Nat) ({ cls := "java/lang/StringUTF16", name := "toBytes", desc := "([CII)[B" } : Jvm.MethodName)) : Jvm.Cond).before a0 Z = true := hw _ (List.mem_of_getElem? (i := 88) rfl)
theorem w_89 {Z : State} {a0 : Array Value} (hw : ∀ d ∈ tables_1, d.before a0 Z = true) : ((Jvm.Cond.static ({ cls := "java/lang/StringUTF16", name := "toBytes", desc := "([CII)[B" } : Jvm.MethodName)) : Jvm.Cond).before a0 Z = true := hw _ (List.mem_of_getElem? (i := 89) rfl)
theorem w_90 {Z : State} {a0 : Array Value} (hw : ∀ d ∈ tables_1, d.before a0 Z = true) : ((Jvm.Cond.code ({ cls := "java/lang/StringUTF16", name := "toBytes", desc := "([CII)[B" } : Jvm.MethodName) jdk_52_method_14_code (5 : Nat) (Option.some (Jvm.ClassFile.FieldType.array Jvm.ClassFile.FieldType.byte))) : Jvm.Cond).before a0 Z = true := hw _ (List.mem_of_getElem? (i := 90) rfl)
theorem w_91 {Z : State} {a0 : Array Value} (hw : ∀ d ∈ tables_1, d.before a0 Z = true) : ((Jvm.Cond.methodLink "java/lang/StringUTF16" (107 : Nat) ({ cls := "java/lang/StringUTF16", name := "newBytesFor", desc := "(I)[B" } : Jvm.MethodName)) : Jvm.Cond).before a0 Z = true := hw _ (List.mem_of_getElem? (i := 91) rfl)
theorem w_92 {Z : State} {a0 : Array Value} (hw : ∀ d ∈ tables_1, d.before a0 Z = true) : ((Jvm.Cond.static ({ cls := "java/lang/StringUTF16", name := "newBytesFor", desc := "(I)[B" } : Jvm.MethodName)) : Jvm.Cond).before a0 Z = true := hw _ (List.mem_of_getElem? (i := 92) rfl)
theorem w_93 {Z : State} {a0 : Array Value} (hw : ∀ d ∈ tables_1, d.before a0 Z = true) : ((Jvm.Cond.code ({ cls := "java/lang/StringUTF16", name := "newBytesFor", desc := "(I)[B" } : Jvm.MethodName) jdk_52_method_2_code (1 : Nat) (Option.some (Jvm.ClassFile.FieldType.array Jvm.ClassFile.FieldType.byte))) : Jvm.Cond).before a0 Z = true := hw _ (List.mem_of_getElem? (i := 93) rfl)
theorem w_94 {Z : State} {a0 : Array Value} (hw : ∀ d ∈ tables_1, d.before a0 Z = true) : ((Jvm.Cond.methodLink "java/lang/StringUTF16" (11 : Nat) ({ cls := "java/lang/StringUTF16", name := "newBytesLength", desc := "(I)I" } : Jvm.MethodName)) : Jvm.Cond).before a0 Z = true := hw _ (List.mem_of_getElem? (i := 94) rfl)
theorem w_95 {Z : State} {a0 : Array Value} (hw : ∀ d ∈ tables_1, d.before a0 Z = true) : ((Jvm.Cond.static ({ cls := "java/lang/StringUTF16", name := "newBytesLength", desc := "(I)I" } : Jvm.MethodName)) : Jvm.Cond).before a0 Z = true := hw _ (List.mem_of_getElem? (i := 95) rfl)
theorem w_96 {Z : State} {a0 : Array Value} (hw : ∀ d ∈ tables_1, d.before a0 Z = true) : ((Jvm.Cond.code ({ cls := "java/lang/StringUTF16", name := "newBytesLength", desc := "(I)I" } : Jvm.MethodName) jdk_52_method_3_code (1 : Nat) (Option.some Jvm.ClassFile.FieldType.int)) : Jvm.Cond).before a0 Z = true := hw _ (List.mem_of_getElem? (i := 96) rfl)
theorem w_97 {Z : State} {a0 : Array Value} (hw : ∀ d ∈ tables_1, d.before a0 Z = true) : ((Jvm.Cond.constant "java/lang/StringUTF16" (20 : Nat) (1073741823 : Int32)) : Jvm.Cond).before a0 Z = true := hw _ (List.mem_of_getElem? (i := 97) rfl)
theorem w_98 {Z : State} {a0 : Array Value} (hw : ∀ d ∈ tables_1, d.before a0 Z = true) : ((Jvm.Cond.methodLink "java/lang/StringUTF16" (111 : Nat) ({ cls := "java/lang/StringUTF16", name := "putChar", desc := "([BII)V" } : Jvm.MethodName)) : Jvm.Cond).before a0 Z = true := hw _ (List.mem_of_getElem? (i := 98) rfl)
theorem w_99 {Z : State} {a0 : Array Value} (hw : ∀ d ∈ tables_1, d.before a0 Z = true) : ((Jvm.Cond.static ({ cls := "java/lang/StringUTF16", name := "putChar", desc := "([BII)V" } : Jvm.MethodName)) : Jvm.Cond).before a0 Z = true := hw _ (List.mem_of_getElem? (i := 99) rfl)
theorem w_100 {Z : State} {a0 : Array Value} (hw : ∀ d ∈ tables_1, d.before a0 Z = true) : ((Jvm.Cond.code ({ cls := "java/lang/StringUTF16", name := "putChar", desc := "([BII)V" } : Jvm.MethodName) jdk_52_method_4_code (3 : Nat) (Option.none : Option Jvm.ClassFile.FieldType)) : Jvm.Cond).before a0 Z = true := hw _ (List.mem_of_getElem? (i := 100) rfl)
theorem w_101 {Z : State} {a0 : Array Value} (hw : ∀ d ∈ tables_1, d.before a0 Z = true) : ((Jvm.Cond.fieldLink "java/lang/StringUTF16" (44 : Nat) "java/lang/StringUTF16" "$assertionsDisabled" "Z") : Jvm.Cond).before a0 Z = true := hw _ (List.mem_of_getElem? (i := 101) rfl)
theorem w_102 {Z : State} {a0 : Array Value} (hw : ∀ d ∈ tables_1, d.before a0 Z = true) : ((Jvm.Cond.fieldLink "java/lang/StringUTF16" (59 : Nat) "java/lang/StringUTF16" "HI_BYTE_SHIFT" "I") : Jvm.Cond).before a0 Z = true := hw _ (List.mem_of_getElem? (i := 102) rfl)
theorem w_103 {Z : State} {a0 : Array Value} (hw : ∀ d ∈ tables_1, d.before a0 Z = true) : ((Jvm.Cond.fieldLink "java/lang/StringUTF16" (63 : Nat) "java/lang/StringUTF16" "LO_BYTE_SHIFT" "I") : Jvm.Cond).before a0 Z = true := hw _ (List.mem_of_getElem? (i := 103) rfl)
theorem w_104 {Z : State} {a0 : Array Value} (hw : ∀ d ∈ tables_1, d.before a0 Z = true) : ((Jvm.Cond.methodLink "java/lang/StringUTF16" (71 : Nat) ({ cls := "java/lang/StringUTF16", name := "getChar", desc := "([BI)C" } : Jvm.MethodName)) : Jvm.Cond).before a0 Z = true := hw _ (List.mem_of_getElem? (i := 104) rfl)
theorem w_105 {Z : State} {a0 : Array Value} (hw : ∀ d ∈ tables_1, d.before a0 Z = true) : ((Jvm.Cond.static ({ cls := "java/lang/StringUTF16", name := "getChar", desc := "([BI)C" } : Jvm.MethodName)) : Jvm.Cond).before a0 Z = true := hw _ (List.mem_of_getElem? (i := 105) rfl)
theorem w_106 {Z : State} {a0 : Array Value} (hw : ∀ d ∈ tables_1, d.before a0 Z = true) : ((Jvm.Cond.code ({ cls := "java/lang/StringUTF16", name := "getChar", desc := "([BI)C" } : Jvm.MethodName) jdk_52_method_5_code (2 : Nat) (Option.some Jvm.ClassFile.FieldType.char)) : Jvm.Cond).before a0 Z = true := hw _ (List.mem_of_getElem? (i := 106) rfl)
theorem w_107 {Z : State} {a0 : Array Value} (hw : ∀ d ∈ tables_1, d.before a0 Z = true) : ((Jvm.Cond.methodLink "java/lang/String" (640 : Nat) ({ cls := "java/lang/StringUTF16", name := "indexOf", desc := "([BIII)I" } : Jvm.MethodName)) : Jvm.Cond).before a0 Z = true := hw _ (List.mem_of_getElem? (i := 107) rfl)
theorem w_108 {Z : State} {a0 : Array Value} (hw : ∀ d ∈ tables_1, d.before a0 Z = true) : ((Jvm.Cond.static ({ cls := "java/lang/StringUTF16", name := "indexOf", desc := "([BIII)I" } : Jvm.MethodName)) : Jvm.Cond).before a0 Z = true := hw _ (List.mem_of_getElem? (i := 108) rfl)
theorem w_109 {Z : State} {a0 : Array Value} (hw : ∀ d ∈ tables_1, d.before a0 Z = true) : ((Jvm.Cond.code ({ cls := "java/lang/StringUTF16", name := "indexOf", desc := "([BIII)I" } : Jvm.MethodName) jdk_52_method_40_code (4 : Nat) (Option.some Jvm.ClassFile.FieldType.int)) : Jvm.Cond).before a0 Z = true := hw _ (List.mem_of_getElem? (i := 109) rfl)
theorem w_110 {Z : State} {a0 : Array Value} (hw : ∀ d ∈ tables_1, d.before a0 Z = true) : ((Jvm.Cond.methodLink "java/lang/StringUTF16" (224 : Nat) ({ cls := "java/lang/Math", name := "max", desc := "(II)I" } : Jvm.MethodName)) : Jvm.Cond).before a0 Z = true := hw _ (List.mem_of_getElem? (i := 110) rfl)
theorem w_111 {Z : State} {a0 : Array Value} (hw : ∀ d ∈ tables_1, d.before a0 Z = true) : ((Jvm.Cond.methodLink "java/lang/StringUTF16" (183 : Nat) ({ cls := "java/lang/Math", name := "min", desc := "(II)I" } : Jvm.MethodName)) : Jvm.Cond).before a0 Z = true := hw _ (List.mem_of_getElem? (i := 111) rfl)
theorem w_112 {Z : State} {a0 : Array Value} (hw : ∀ d ∈ tables_1, d.before a0 Z = true) : ((Jvm.Cond.constant "java/lang/StringUTF16" (227 : Nat) (65536 : Int32)) : Jvm.Cond).before a0 Z = true := hw _ (List.mem_of_getElem? (i := 112) rfl)
theorem w_113 {Z : State} {a0 : Array Value} (hw : ∀ d ∈ tables_1, d.before a0 Z = true) : ((Jvm.Cond.methodLink "java/lang/StringUTF16" (228 : Nat) ({ cls := "java/lang/StringUTF16", name := "indexOfChar", desc := "([BIII)I" } : Jvm.MethodName)) : Jvm.Cond).before a0 Z = true := hw _ (List.mem_of_getElem? (i := 113) rfl)
theorem w_114 {Z : State} {a0 : Array Value} (hw : ∀ d ∈ tables_1, d.before a0 Z = true) : ((Jvm.Cond.static ({ cls := "java/lang/StringUTF16", name := "indexOfChar", desc := "([BIII)I" } : Jvm.MethodName)) : Jvm.Cond).before a0 Z = true := hw _ (List.mem_of_getElem? (i := 114) rfl)
theorem w_115 {Z : State} {a0 : Array Value} (hw : ∀ d ∈ tables_1, d.before a0 Z = true) : ((Jvm.Cond.code ({ cls := "java/lang/StringUTF16", name := "indexOfChar", desc := "([BIII)I" } : Jvm.MethodName) jdk_52_method_47_code (4 : Nat) (Option.some Jvm.ClassFile.FieldType.int)) : Jvm.Cond).before a0 Z = true := hw _ (List.mem_of_getElem? (i := 115) rfl)
theorem w_116 {Z : State} {a0 : Array Value} (hw : ∀ d ∈ tables_1, d.before a0 Z = true) : ((Jvm.Cond.methodLink "java/lang/StringUTF16" (96 : Nat) ({ cls := "java/lang/StringUTF16", name := "checkBoundsBeginEnd", desc := "(II[B)V" } : Jvm.MethodName)) : Jvm.Cond).before a0 Z = true := hw _ (List.mem_of_getElem? (i := 116) rfl)
theorem w_117 {Z : State} {a0 : Array Value} (hw : ∀ d ∈ tables_1, d.before a0 Z = true) : ((Jvm.Cond.static ({ cls := "java/lang/StringUTF16", name := "checkBoundsBeginEnd", desc := "(II[B)V" } : Jvm.MethodName)) : Jvm.Cond).before a0 Z = true := hw _ (List.mem_of_getElem? (i := 117) rfl)
theorem w_118 {Z : State} {a0 : Array Value} (hw : ∀ d ∈ tables_1, d.before a0 Z = true) : ((Jvm.Cond.code ({ cls := "java/lang/StringUTF16", name := "checkBoundsBeginEnd", desc := "(II[B)V" } : Jvm.MethodName) jdk_52_method_93_code (3 : Nat) (Option.none : Option Jvm.ClassFile.FieldType)) : Jvm.Cond).before a0 Z = true := hw _ (List.mem_of_getElem? (i := 118) rfl)
theorem w_119 {Z : State} {a0 : Array Value} (hw : ∀ d ∈ tables_1, d.before a0 Z = true) : ((Jvm.Cond.methodLink "java/lang/StringUTF16" (48 : Nat) ({ cls := "java/lang/StringUTF16", name := "length", desc := "([B)I" } : Jvm.MethodName)) : Jvm.Cond).before a0 Z = true := hw _ (List.mem_of_getElem? (i := 119) rfl)
theorem w_120 {Z : State} {a0 : Array Value} (hw : ∀ d ∈ tables_1, d.before a0 Z = true) : ((Jvm.Cond.static ({ cls := "java/lang/StringUTF16", name := "length", desc := "([B)I" } : Jvm.MethodName)) : Jvm.Cond).before a0 Z = true := hw _ (List.mem_of_getElem? (i := 120) rfl)
theorem w_121 {Z : State} {a0 : Array Value} (hw : ∀ d ∈ tables_1, d.before a0 Z = true) : ((Jvm.Cond.code ({ cls := "java/lang/StringUTF16", name := "length", desc := "([B)I" } : Jvm.MethodName) jdk_52_method_6_code (1 : Nat) (Option.some Jvm.ClassFile.FieldType.int)) : Jvm.Cond).before a0 Z = true := hw _ (List.mem_of_getElem? (i := 121) rfl)
theorem w_122 {Z : State} {a0 : Array Value} (hw : ∀ d ∈ tables_1, d.before a0 Z = true) : ((Jvm.Cond.methodLink "java/lang/StringUTF16" (241 : Nat) ({ cls := "java/lang/String", name := "checkBoundsBeginEnd", desc := "(III)V" } : Jvm.MethodName)) : Jvm.Cond).before a0 Z = true := hw _ (List.mem_of_getElem? (i := 122) rfl)
theorem w_123 {Z : State} {a0 : Array Value} (hw : ∀ d ∈ tables_1, d.before a0 Z = true) : ((Jvm.Cond.static ({ cls := "java/lang/String", name := "checkBoundsBeginEnd", desc := "(III)V" } : Jvm.MethodName)) : Jvm.Cond).before a0 Z = true := hw _ (List.mem_of_getElem? (i := 123) rfl)
theorem w_124 {Z : State} {a0 : Array Value} (hw : ∀ d ∈ tables_1, d.before a0 Z = true) : ((Jvm.Cond.code ({ cls := "java/lang/String", name := "checkBoundsBeginEnd", desc := "(III)V" } : Jvm.MethodName) jdk_42_method_158_code (3 : Nat) (Option.none : Option Jvm.ClassFile.FieldType)) : Jvm.Cond).before a0 Z = true := hw _ (List.mem_of_getElem? (i := 124) rfl)
theorem w_125 {Z : State} {a0 : Array Value} (hw : ∀ d ∈ tables_1, d.before a0 Z = true) : ((Jvm.Cond.fieldLink "java/lang/String" (1053 : Nat) "jdk/internal/util/Preconditions" "SIOOBE_FORMATTER" "Ljava/util/function/BiFunction;") : Jvm.Cond).before a0 Z = true := hw _ (List.mem_of_getElem? (i := 125) rfl)
theorem w_126 {Z : State} {a0 : Array Value} (hw : ∀ d ∈ tables_1, d.before a0 Z = true) : ((Jvm.Cond.initialized "jdk/internal/util/Preconditions") : Jvm.Cond).before a0 Z = true := hw _ (List.mem_of_getElem? (i := 126) rfl)
theorem w_127 {Z : State} {a0 : Array Value} (hw : ∀ d ∈ tables_1, d.before a0 Z = true) : ((Jvm.Cond.methodLink "java/lang/String" (1062 : Nat) ({ cls := "jdk/internal/util/Preconditions", name := "checkFromToIndex", desc := "(IIILjava/util/function/BiFunction;)I" } : Jvm.MethodName)) : Jvm.Cond).before a0 Z = true := hw _ (List.mem_of_getElem? (i := 127) rfl)
theorem w_128 {Z : State} {a0 : Array Value} (hw : ∀ d ∈ tables_1, d.before a0 Z = true) : ((Jvm.Cond.static ({ cls := "jdk/internal/util/Preconditions", name := "checkFromToIndex", desc := "(IIILjava/util/function/BiFunction;)I" } : Jvm.MethodName)) : Jvm.Cond).before a0 Z = true := hw _ (List.mem_of_getElem? (i := 128) rfl)
theorem w_129 {Z : State} {a0 : Array Value} (hw : ∀ d ∈ tables_1, d.before a0 Z = true) : ((Jvm.Cond.code ({ cls := "jdk/internal/util/Preconditions", name := "checkFromToIndex", desc := "(IIILjava/util/function/BiFunction;)I" } : Jvm.MethodName) jdk_41_method_12_code (4 : Nat) (Option.some Jvm.ClassFile.FieldType.int)) : Jvm.Cond).before a0 Z = true := hw _ (List.mem_of_getElem? (i := 129) rfl)
theorem w_130 {Z : State} {a0 : Array Value} (hw : ∀ d ∈ tables_1, d.before a0 Z = true) : ((Jvm.Cond.methodLink "java/lang/StringUTF16" (244 : Nat) ({ cls := "java/lang/StringUTF16", name := "indexOfCharUnsafe", desc := "([BIII)I" } : Jvm.MethodName)) : Jvm.Cond).before a0 Z = true := hw _ (List.mem_of_getElem? (i := 130) rfl)
theorem w_131 {Z : State} {a0 : Array Value} (hw : ∀ d ∈ tables_1, d.before a0 Z = true) : ((Jvm.Cond.static ({ cls := "java/lang/StringUTF16", name := "indexOfCharUnsafe", desc := "([BIII)I" } : Jvm.MethodName)) : Jvm.Cond).before a0 Z = true := hw _ (List.mem_of_getElem? (i := 131) rfl)
theorem w_132 {Z : State} {a0 : Array Value} (hw : ∀ d ∈ tables_1, d.before a0 Z = true) : ((Jvm.Cond.code ({ cls := "java/lang/StringUTF16", name := "indexOfCharUnsafe", desc := "([BIII)I" } : Jvm.MethodName) jdk_52_method_48_code (5 : Nat) (Option.some Jvm.ClassFile.FieldType.int)) : Jvm.Cond).before a0 Z = true := hw _ (List.mem_of_getElem? (i := 132) rfl)
theorem own_big {c : Int32} (q : (65535 : Int32) < c) : (255 : Int32) < c := by
  rw [Int32.lt_iff_toInt_lt] at q ⊢
  have e1 : (65535 : Int32).toInt = 65535 := by decide
  have e2 : (255 : Int32).toInt = 255 := by decide
  omega
def own_b8 (cs : List Int32) : List Value := (cs.map fun c => c.toInt8.toInt32).map Value.int
def own_Str (Z : State) (h : Heap) (x t : Addr) (k : ClassId) (cs : List Int32) : Prop := Exa Z h x "java/lang/String" ∧ Fld Z h x "java/lang/String" "value" "[B" (.ref t) ∧ Fld Z h x "java/lang/String" "coder" "B" (.int 0) ∧ Arv Z h t k .byte (Int32.ofNat cs.length) (own_b8 cs) (.int 0) ∧ cs.length ≤ 4000 ∧ ∀ c ∈ cs, ¬ c < 0 ∧ ¬ (255 : Int32) < c
theorem own_up {Z : State} {h : Heap} {x t : Addr} {k : ClassId} {cs : List Int32} (S : own_Str Z h x t k cs) : ∀ c ∈ cs, ¬ c < 0 ∧ ¬ (65535 : Int32) < c := fun c hc => ⟨(S.2.2.2.2.2 c hc).1, fun q => (S.2.2.2.2.2 c hc).2 (own_big q)⟩
theorem own_w_backV {Z : State} {a0 : Array Value} (hw : ∀ d ∈ tables_1, d.before a0 Z = true) : ∀ d ∈ StrChars.Road.words, d.before a0 Z = true := fun d hd => hw d ((by decide +kernel : ∀ d ∈ StrChars.Road.words, d ∈ tables_1) d hd)
theorem own_w_lenW {Z : State} {a0 : Array Value} (hw : ∀ d ∈ tables_1, d.before a0 Z = true) : ∀ d ∈ StrChars.Road.wordsLen, d.before a0 Z = true := fun d hd => hw d ((by decide +kernel : ∀ d ∈ StrChars.Road.wordsLen, d ∈ tables_1) d hd)
theorem own_cod {Z : State} {h : Heap} {x t : Addr} {k : ClassId} {cs : List Int32} (S : own_Str Z h x t k cs) : StrChars.Road.CodA cs 0 (Int32.ofNat cs.length) (own_b8 cs) := StrChars.Road.codOf rfl (fun c hc => (S.2.2.2.2.2 c hc).2)
theorem own_len {p : Program} {l : Launch} {e : Env} {R : Room} {s : State} {args : Array Value} {below : List Frame} {len W : Nat} {Z : State} {a0 : Array Value} {h : Heap} (hZ : Z.Warmed39 s.vm) (hw : ∀ d ∈ tables_1, d.before a0 Z = true) {x t : Addr} {k : ClassId} {cs : List Int32} {z : Int32} (S : own_Str Z h x t k cs) (C : Sta Z h "java/lang/String" "COMPACT_STRINGS" "Z" (.int z)) (hz : ¬ (z = (0 : Int32))) (hfr : 2 ≤ R.frames) (hlo : W + 25 ≤ R.locals) :
    Back l R p e below s args (⟨"java/lang/String", "length", "()I"⟩ : MethodName) len W (fun P a => a = #[.ref x] ∧ P.U.heap = h ∧ P.cells + 0 ≤ R.cells ∧ P.slots + 0 ≤ R.slots) (fun P _ v B => ∃ L, (v = some (.int (Int32.ofNat cs.length)) ∧ L = [] ∧ B.U.heap = h) ∧ B.locs = P.locs ++ L ∧ B.cells = P.cells + 0 ∧ B.slots = P.slots + 0) :=
  StrChars.Road.lenW hZ (own_w_lenW hw) (w_8 hw) S.1 S.2.1 S.2.2.1 S.2.2.2.1 (own_cod S) (own_up S) C hz S.2.2.2.2.1 hfr hlo
theorem own_new {p : Program} {l : Launch} {e : Env} {R : Room} {s : State} {args : Array Value} {below : List Frame} {len W : Nat} {Z : State} {a0 : Array Value} {h : Heap} (hZ : Z.Warmed39 s.vm) (hw : ∀ d ∈ tables_1, d.before a0 Z = true) {x b : Addr} {kC : ClassId} {cs : List Int32} {d v0 c0 : Value} {z N : Int32} {n n0 : Nat} (hx0 : n0 ≤ x) (hh0 : n0 ≤ h.size) (E : Exa Z h x "java/lang/String") (V : Fld Z h x "java/lang/String" "value" "[B" v0) (C : Fld Z h x "java/lang/String" "coder" "B" c0) (K : Arv Z h b kC .char N (cs.map Value.int) d) (S : Sta Z h "java/lang/String" "COMPACT_STRINGS" "Z" (.int z)) (hz : ¬ (z = (0 : Int32))) (hn : cs.length = n) (hN : N = Int32.ofNat n) (l0 : 0 < n) (l2 : n ≤ 4000) (hp : ∀ c ∈ cs, ¬ c < 0 ∧ ¬ (255 : Int32) < c) (hfr : 4 ≤ R.frames) (hlo : W + 65 ≤ R.locals) :
    Back l R p e below s args (⟨"java/lang/String", "<init>", "([C)V"⟩ : MethodName) len W (fun P a => a = #[.ref x, .ref b] ∧ P.U.heap = h ∧ P.cells + 1 ≤ R.cells ∧ P.slots + n ≤ R.slots)
      (fun P _ v B => ∃ L, (v = none ∧ Fr n0 L ∧ Keep h B.U.heap [x] ∧ ∃ (t : Addr) (kb : ClassId), h.size ≤ t ∧ own_Str Z B.U.heap x t kb cs) ∧ B.locs = P.locs ++ L ∧ B.cells = P.cells + 1 ∧ B.slots = P.slots + n) := by
  refine Back.mono (StrChars.Road.backV hZ (own_w_backV hw) (w_8 hw) hx0 hh0 E V C K S hz hn hN l0 l2 hp rfl hfr hlo) (fun _ _ h => h) (fun P a v B hp' hq => ?_)
  obtain ⟨L, ⟨h1, h2, h3, h4, h5, t, kb, h6, h7, h8, h9, h10⟩, h11⟩ := hq
  subst hn hN
  exact ⟨L, ⟨h1, h2, h3, t, kb, h7, h4, h9, h5, h10, l2, hp⟩, h11⟩

def own_EL : List (String × Nat) := [("java/lang/String", 7)]
theorem own_EW {Z : State} {a0 : Array Value} (hw : ∀ d ∈ tables_1, d.before a0 Z = true) : EW Z a0 own_EL := (EW.cons (w_20 hw) (by decide) EW.nil)
theorem own_wS {Z : State} {a0 : Array Value} (hw : ∀ d ∈ tables_1, d.before a0 Z = true) : ∀ a ∈ Bundle.stringAtoms, a.before a0 Z = true := fun d hd => hw d ((by decide +kernel : ∀ d ∈ Bundle.stringAtoms, d ∈ tables_1) d hd)
theorem own_sf0 {Z : State} {EL : List (String × Nat)} {vm0 : Vm} {h : Heap} : ∀ x ∈ ([] : List Addr), x < h.size ∧ Safe Z EL vm0 h x := fun _ q => nomatch q
theorem own_sfS {Z : State} {EL : List (String × Nat)} {vm0 : Vm} {h : Heap} {x : Addr} {ws : List Addr} (n1 : x < h.size) (n : Safe Z EL vm0 h x) (r : ∀ y ∈ ws, y < h.size ∧ Safe Z EL vm0 h y) : ∀ y ∈ x :: ws, y < h.size ∧ Safe Z EL vm0 h y := fun y q => by
  rcases List.mem_cons.mp q with rfl | q
  · exact ⟨n1, n⟩
  · exact r y q
theorem own_backOfSH {p : Program} {l : Launch} {e : Env} {R : Room} {s : State} {args : Array Value} {below : List Frame} {Z : State} {a0 : Array Value} {EL : List (String × Nat)} {h : Heap} {vm0 : Vm} {sf : List Addr} {y : MethodName} {bytes : ByteArray} {maxL : Nat} {ret : Option FieldType} {rm : Room} {len W : Nat} {as' : Array Value} {Q : Option Value → Heap → List Loc → Vm → Prop}
    (hM : MetFree l y (head1 [Jvm.Cond.code y bytes maxL ret] rm) (fun a U => a = as' ∧ Z.Warmed39 U.vm ∧ U.heap = h ∧ CHv Z EL U.vm h ∧ ∀ x ∈ sf, Safe Z EL U.vm h x) (fun _ _ _ _ _ => True) (fun _ U o U' => ∃ v L, o = .returned v ∧ Q v U'.heap L U'.vm ∧ CHr Z EL U.vm U.heap U'.vm U'.heap ∧ ReturnedEndW U o U' L rm.cells rm.slots))
    (hZ : Z.Warmed39 vm0) (wc : (Jvm.Cond.code y bytes maxL ret).before a0 Z = true) (wz : (Jvm.Cond.initialized y.cls).before a0 Z = true) (hf : rm.frames + 1 ≤ R.frames) (hl : W + (maxL + 11) + rm.locals ≤ R.locals) (hEL : EW Z a0 EL) (H : CHv Z EL vm0 h) (hsf : ∀ x ∈ sf, x < h.size ∧ Safe Z EL vm0 h x) :
    BackS l R p e below (s.setVm vm0) args y len W (fun A a => a = as' ∧ A.U.heap = h ∧ A.cells + rm.cells ≤ R.cells ∧ A.slots + rm.slots ≤ R.slots)
      (fun A _ v B => ∃ L, Q v B.U.heap L B.U.vm ∧ B.locs = A.locs ++ L ∧ B.cells = A.cells + rm.cells ∧ B.slots = A.slots + rm.slots ∧ CHr Z EL vm0 h B.U.vm B.U.heap) :=
  BackS.of_freeW (bytes := bytes) (maxL := maxL) (ret := ret) (E := fun _ first o t L k n => k = rm.cells ∧ n = rm.slots ∧ (∃ v, o = .returned v ∧ Q v t.heap L t.vm) ∧ CHr Z EL first.vm first.heap t.vm t.heap) hM hf hl
    (fun m meth c A a Y hp => have hU : Z.Warmed39 A.U.vm := wtrans (s := s.setVm vm0) hZ Y.warmed
      ⟨by show (Jvm.Cond.and _ .tt).before a A.U = true; rw [Cond.before_and, mv hU wc]; rfl, mv hU wc, mv hU wz, hp.2.2.1, hp.2.2.2⟩)
    (fun m meth c A a g mk Y hp => ⟨hp.1, wtrans (s := s.setVm vm0) hZ Y.warmed, hp.2.1, (CHv.at Y hZ hEL H).1, fun x hx => (CHv.at Y hZ hEL H).safe (hsf x hx).1 (hsf x hx).2⟩) (fun _ _ _ _ _ _ _ _ _ => trivial)
    (fun _ _ _ _ ⟨v, L, h1, h2, h3, h4⟩ => ⟨L, _, _, h4, rfl, rfl, ⟨v, h1, h2⟩, h3⟩)
    (fun m meth c A a g mk v t L k n Y hp _ _ ⟨e1, e2, ⟨v', e3, e4⟩, e5⟩ => by
      cases e3; subst e1 e2
      refine ⟨L, e4, rfl, rfl, rfl, (CHv.at Y hZ hEL H).trans ?_⟩
      rw [← hp.2.1]; exact e5)


theorem own_c255 (x : Int32) : ¬ (x &&& (255 : Int32)) < 0 ∧ ¬ (255 : Int32) < (x &&& (255 : Int32)) := by
  have h : (x &&& (255 : Int32)).toBitVec.toNat ≤ 255 := by
    show ((x.toBitVec &&& 255#32)).toNat ≤ 255
    rw [BitVec.toNat_and]
    exact Nat.and_le_right
  have e : (x &&& (255 : Int32)).toInt = ((x &&& (255 : Int32)).toBitVec.toNat : Int) := by
    show (x &&& (255 : Int32)).toBitVec.toInt = _
    rw [BitVec.toInt_eq_toNat_cond, if_pos (by omega)]
  constructor <;> rw [Int32.lt_iff_toInt_lt, e]
  · show ¬ _ < (0 : Int); omega
  · show ¬ (255 : Int) < _; omega
theorem own_rem (a b : Nat) (ha : a < 2147483648) (hb : b + 1 < 2147483648) : Int32.ofNat a % Int32.ofNat (b + 1) = Int32.ofNat (a % (b + 1)) := by
  apply Int32.toInt_inj.mp
  have h1 : a % (b + 1) ≤ a := Nat.mod_le _ _
  rw [Int32.toInt_mod, own_toI ha, own_toI hb, own_toI (by omega)]
  rw [Int.tmod_eq_emod_of_nonneg (by omega)]
  omega
theorem own_nz (b : Nat) (hb : b + 1 < 2147483648) : Int32.ofNat (b + 1) ≠ 0 := fun h => by
  have q := congrArg Int32.toInt h
  rw [own_toI hb] at q
  have e : (0 : Int32).toInt = 0 := by decide
  rw [e] at q; omega


theorem own_nb (c : Int32) : nar .byte (c.toInt8.toInt32) = c.toInt8.toInt32 := by
  show (c.toInt8.toInt32).toInt8.toInt32 = c.toInt8.toInt32
  rw [Int8.toInt8_toInt32]


theorem own_i2c {c : Int32} (h : ¬ c < 0 ∧ ¬ (255 : Int32) < c) : c.toUInt32.toUInt16.toUInt32.toInt32 = c := by
  have e : c &&& (255 : Int32) = c := by
    rw [Int32.lt_iff_toInt_lt, Int32.lt_iff_toInt_lt] at h
    have e0 : (0 : Int32).toInt = 0 := by decide
    have e2 : (255 : Int32).toInt = 255 := by decide
    rw [e0, e2] at h
    have hn : c.toBitVec.toNat ≤ 255 := by
      have q : c.toInt = c.toBitVec.toInt := rfl
      rw [BitVec.toInt_eq_toNat_cond] at q
      have := c.toBitVec.isLt
      split at q <;> omega
    apply Int32.toBitVec_inj.mp
    show c.toBitVec &&& 255#32 = c.toBitVec
    apply BitVec.eq_of_toNat_eq
    rw [BitVec.toNat_and]
    show c.toBitVec.toNat &&& 255 = _
    rw [show (255 : Nat) = 2 ^ 8 - 1 from rfl, Nat.and_two_pow_sub_one_eq_mod]
    omega
  have := i2c_mask c
  rw [e] at this
  exact this
theorem own_nc {c : Int32} (h : ¬ c < 0 ∧ ¬ (255 : Int32) < c) : nar .char c = c := own_i2c h


def own_max (p q : Int32) : Int32 := if p < q then q else p
def own_min (p q : Int32) : Int32 := if q < p then q else p
def own_enc (p : Int32) : Int32 := if p < (0 : Int32) then 0 else if (255 : Int32) < p then 0 else 1
def own_end (cs : List Int32) (d : Int32) : Nat → Nat → Nat
  | i, 0 => i
  | i, k + 1 => if cs.getD i 0 = d then i else own_end cs d (i + 1) k
def own_ixk (cs : List Int32) (d : Int32) : Nat → Nat → Int32
  | _, 0 => -1
  | i, k + 1 => if cs.getD i 0 = d then Int32.ofNat i else own_ixk cs d (i + 1) k
theorem own_end_bd (cs : List Int32) (d : Int32) : ∀ k i, i ≤ own_end cs d i k ∧ own_end cs d i k ≤ i + k
  | 0, i => by simp [own_end]
  | k + 1, i => by
    have h := own_end_bd cs d k (i + 1)
    simp only [own_end]
    split <;> omega
theorem own_end_at (cs : List Int32) (d : Int32) : ∀ k i, own_end cs d i k < i + k → cs.getD (own_end cs d i k) 0 = d
  | 0, i => by simp [own_end]
  | k + 1, i => by
    have h := own_end_at cs d k (i + 1)
    simp only [own_end]
    split
    · rename_i q; intro _; exact q
    · intro q; exact h (by omega)
theorem own_end_no (cs : List Int32) (d : Int32) : ∀ k i j, i ≤ j → j < own_end cs d i k → ¬ cs.getD j 0 = d
  | 0, i, j => by intro h1 h2; simp only [own_end] at h2; omega
  | k + 1, i, j => by
    intro h1 h2
    simp only [own_end] at h2
    split at h2
    · omega
    · rename_i q
      by_cases e : i = j
      · subst e; exact q
      · exact own_end_no cs d k (i + 1) j (by omega) h2
theorem own_ixk_end (cs : List Int32) (d : Int32) : ∀ k i, own_ixk cs d i k = if own_end cs d i k < i + k then Int32.ofNat (own_end cs d i k) else -1
  | 0, i => by simp [own_end, own_ixk]
  | k + 1, i => by
    simp only [own_end, own_ixk]
    split
    · rw [if_pos (by omega)]
    · rw [own_ixk_end cs d k (i + 1), show i + 1 + k = i + (k + 1) by omega]
theorem own_lo8_inj {x y : Int32} (hx : ¬ x < 0 ∧ ¬ (255 : Int32) < x) (hy : ¬ y < 0 ∧ ¬ (255 : Int32) < y) (h : x.toInt8.toInt32 = y.toInt8.toInt32) : x = y := by
  rw [Int32.lt_iff_toInt_lt, Int32.lt_iff_toInt_lt] at hx hy
  have e1 : (0 : Int32).toInt = 0 := by decide
  have e2 : (255 : Int32).toInt = 255 := by decide
  rw [e1, e2] at hx hy
  have q := congrArg Int32.toInt h
  rw [Int8.toInt_toInt32, Int8.toInt_toInt32, Int32.toInt_toInt8, Int32.toInt_toInt8] at q
  refine Int32.toInt_inj.mp ?_
  simp only [Int.bmod_def] at q
  omega
theorem own_b8_get (cs : List Int32) {i : Nat} (h : i < cs.length) (h2 : cs.length ≤ 4000) : (own_b8 cs).getD (Int32.ofNat i).toNatClampNeg (.int 0) = .int (cs.getD i 0).toInt8.toInt32 := by
  rw [own_clamp (by omega), own_b8, List.map_map]
  simp [List.getD_eq_getElem?_getD, List.getElem?_map, List.getElem?_eq_getElem h]
theorem own_mem (cs : List Int32) {i : Nat} (h : i < cs.length) : cs.getD i 0 ∈ cs := by
  simp [List.getD_eq_getElem?_getD, List.getElem?_eq_getElem h]
theorem own_enc_bad {cs : List Int32} {d : Int32} (h : own_enc d = 0) (hb : ∀ c ∈ cs, ¬ c < 0 ∧ ¬ (255 : Int32) < c) : ∀ k i, i + k ≤ cs.length → own_ixk cs d i k = -1
  | 0, i => fun _ => rfl
  | k + 1, i => fun q => by
    have m := hb _ (own_mem cs (i := i) (by omega))
    have n : ¬ cs.getD i 0 = d := fun e => by
      rw [e] at m
      rw [own_enc, if_neg m.1, if_neg m.2] at h
      exact absurd h (by decide)
    rw [own_ixk, if_neg n]
    exact own_enc_bad h hb k (i + 1) (by omega)
theorem own_enc_ok {d : Int32} (h : ¬ own_enc d = 0) : ¬ d < 0 ∧ ¬ (255 : Int32) < d := by
  unfold own_enc at h
  split at h
  · exact absurd rfl h
  · split at h
    · exact absurd rfl h
    · exact ⟨by assumption, by assumption⟩
theorem own_ixk_neg {cs : List Int32} {d : Int32} {i k : Nat} (hn : i + k < 2147483648) (h : own_ixk cs d i k < 0) : own_end cs d i k = i + k := by
  rw [own_ixk_end] at h
  have b := own_end_bd cs d k i
  split at h
  · exact absurd h (own_nneg _ (by omega))
  · omega
theorem own_ixk_pos {cs : List Int32} {d : Int32} {i k : Nat} (h : ¬ own_ixk cs d i k < 0) : Int32.ofNat (own_end cs d i k) = own_ixk cs d i k := by
  rw [own_ixk_end] at h ⊢
  split at h
  · rw [if_pos (by assumption)]
  · exact absurd (by decide) h
def own_endOf (cs : List Int32) (d : Int32) (f t : Nat) : Nat := if d = (-1 : Int32) then t else own_end cs d f (t - f)
theorem own_endOf_bd {cs : List Int32} {d : Int32} {f t : Nat} (h : f ≤ t) : f ≤ own_endOf cs d f t ∧ own_endOf cs d f t ≤ t := by
  have b := own_end_bd cs d (t - f) f
  unfold own_endOf
  split <;> omega


def own_pr (i : Nat) : Int32 := Int32.ofNat i - (1 : Int32)
theorem own_prS (k : Nat) : own_pr (k + 1) = Int32.ofNat k := by
  rw [own_pr, ← own_inc]
  exact Int32.add_sub_cancel _ _
theorem own_prd (k : Nat) : own_pr (k + 1) + (-1 : Int32) = own_pr k := by
  rw [own_prS, own_pr]
  exact (Int32.sub_eq_add_neg _ _).symm
theorem own_pr0 : own_pr 0 = (-1 : Int32) := by decide
def own_lx (cs : List Int32) (d : Int32) : Nat → Int32
  | 0 => -1
  | k + 1 => if cs.getD k 0 = d then Int32.ofNat k else own_lx cs d k
def own_ln (cs : List Int32) (d : Int32) : Nat → Nat
  | 0 => 0
  | k + 1 => if cs.getD k 0 = d then k + 1 else own_ln cs d k
theorem own_lx1 (cs : List Int32) (d : Int32) : ∀ k, own_lx cs d k + (1 : Int32) = Int32.ofNat (own_ln cs d k)
  | 0 => by show (-1 : Int32) + (1 : Int32) = Int32.ofNat 0; decide
  | k + 1 => by
    rw [own_lx, own_ln]
    split
    · exact own_inc k
    · exact own_lx1 cs d k
theorem own_ln_le (cs : List Int32) (d : Int32) : ∀ k, own_ln cs d k ≤ k
  | 0 => Nat.le_refl _
  | k + 1 => by
    have := own_ln_le cs d k
    rw [own_ln]
    split <;> omega
theorem own_drep (m : Nat) (d : Value) : (List.replicate m d).drop m = [] := by simp
theorem own_minself (x : Int32) : own_min x x = x := by unfold own_min; split <;> rfl
theorem own_subn {a b : Nat} (h : b ≤ a) (ha : a < 2147483648) : Int32.ofNat a - Int32.ofNat b = Int32.ofNat (a - b) := by
  apply Int32.toInt_inj.mp
  rw [own_toI (by omega), Int32.toInt_sub, own_toI ha, own_toI (by omega), Int.bmod_def]
  split <;> omega
theorem own_addn {a b : Nat} : Int32.ofNat a + Int32.ofNat b = Int32.ofNat (a + b) := (Int32.ofNat_add a b).symm
theorem own_b8_len (cs : List Int32) : (own_b8 cs).length = cs.length := by simp [own_b8]
theorem own_b8_sub (cs : List Int32) {b m : Nat} (h : b + m ≤ cs.length) (h2 : cs.length ≤ 4000) : own_b8 ((cs.drop b).take m) = (List.range (Int32.ofNat m).toNatClampNeg).map fun i => (own_b8 cs).getD ((Int32.ofNat b).toNatClampNeg + i) (.int 0) := by
  rw [own_clamp (by omega), own_clamp (by omega)]
  apply List.ext_getElem?
  intro i
  by_cases hi : i < m
  · rw [List.getElem?_map, List.getElem?_range hi]
    simp only [own_b8, List.getD_eq_getElem?_getD, List.getElem?_map, List.map_map]
    rw [List.getElem?_take_of_lt hi, List.getElem?_drop]
    simp [List.getElem?_eq_getElem (show b + i < cs.length by omega)]
  · rw [List.getElem?_eq_none (by rw [own_b8_len, List.length_take]; omega), List.getElem?_eq_none (by simp; omega)]
theorem own_pads (m : Nat) (vs : List Value) (d : Value) (hv : vs.length = m) : ([] : List Value).take 0 ++ vs ++ (List.replicate m d).drop m = vs := by simp


def own_lo (c : Int32) : Int32 := (c >>> ((0 : Int32) &&& 31)).toInt8.toInt32
def own_hi (c : Int32) : Int32 := (c >>> ((8 : Int32) &&& 31)).toInt8.toInt32
def own_u16 : List Int32 → List Value
  | [] => []
  | c :: cs => .int (own_lo c) :: .int (own_hi c) :: own_u16 cs
theorem own_u16_len : ∀ cs : List Int32, (own_u16 cs).length = 2 * cs.length
  | [] => rfl
  | _ :: cs => by show (own_u16 cs).length + 1 + 1 = 2 * (cs.length + 1); rw [own_u16_len cs]; omega
theorem own_u16_lo : ∀ (cs : List Int32) (j : Nat), j < cs.length → (own_u16 cs).getD (2 * j) (.int 0) = .int (own_lo (cs.getD j 0))
  | [], j, h => absurd h (Nat.not_lt_zero _)
  | c :: cs, 0, _ => rfl
  | c :: cs, j + 1, h => own_u16_lo cs j (Nat.lt_of_succ_lt_succ h)
theorem own_u16_hi : ∀ (cs : List Int32) (j : Nat), j < cs.length → (own_u16 cs).getD (2 * j + 1) (.int 0) = .int (own_hi (cs.getD j 0))
  | [], j, h => absurd h (Nat.not_lt_zero _)
  | c :: cs, 0, _ => rfl
  | c :: cs, j + 1, h => own_u16_hi cs j (Nat.lt_of_succ_lt_succ h)

theorem own_shl1 {j : Nat} (h : j < 4000) : Int32.ofNat j <<< ((1 : Int32) &&& 31) = Int32.ofNat (2 * j) := by
  apply Int32.toBitVec_inj.mp
  rw [Int32.toBitVec_shiftLeft]
  have e1 : ((1 : Int32) &&& 31).toBitVec.smod 32 = 1#32 := by decide
  rw [e1]
  apply BitVec.eq_of_toNat_eq
  rw [BitVec.shiftLeft_eq', BitVec.toNat_shiftLeft]
  show (j % 4294967296) <<< 1 % 4294967296 = (2 * j) % 4294967296
  rw [Nat.shiftLeft_eq]
  omega
theorem own_narb (x : Int32) : nar .byte (x.toInt8.toInt32) = x.toInt8.toInt32 := by
  show (x.toInt8.toInt32).toInt8.toInt32 = x.toInt8.toInt32
  rw [Int8.toInt8_toInt32]

theorem own_gc {c : Int32} (h : ¬ c < 0 ∧ ¬ (65535 : Int32) < c) : ((((own_lo c) &&& (255 : Int32)) <<< ((0 : Int32) &&& 31)) ||| (((own_hi c) &&& (255 : Int32)) <<< ((8 : Int32) &&& 31))).toUInt32.toUInt16.toUInt32.toInt32 = c := by
  have q := StrChars.pair_says h.1 h.2
  rw [own_lo, StrChars.shr0]
  exact q
theorem own_nc16 {c : Int32} (h : ¬ c < 0 ∧ ¬ (65535 : Int32) < c) : nar .char c = c := by
  have q := StrChars.narrow_ch h.1 h.2
  exact Value.int.inj q

def own_fi : List Int32 → Nat
  | [] => 0
  | c :: cs => if (255 : Int32) < c then 0 else own_fi cs + 1
theorem own_fi_le : ∀ cs : List Int32, own_fi cs ≤ cs.length
  | [] => Nat.le_refl _
  | c :: cs => by
    rw [own_fi, List.length_cons]
    have := own_fi_le cs
    split <;> omega
theorem own_fi_gt : ∀ cs : List Int32, own_fi cs < cs.length → (255 : Int32) < cs.getD (own_fi cs) 0
  | [], h => absurd h (Nat.not_lt_zero _)
  | c :: cs, h => by
    rw [own_fi] at h ⊢
    split at h
    · rename_i q; rw [if_pos q]; exact q
    · rename_i q; rw [if_neg q]; exact own_fi_gt cs (Nat.lt_of_succ_lt_succ h)
theorem own_fi_all : ∀ cs : List Int32, ¬ own_fi cs < cs.length → ∀ c ∈ cs, ¬ (255 : Int32) < c
  | [], _, c, hc => nomatch hc
  | d :: cs, h, c, hc => by
    rw [own_fi, List.length_cons] at h
    split at h
    · exact absurd (Nat.zero_lt_succ _) h
    · rename_i q
      rcases List.mem_cons.mp hc with rfl | hc
      · exact q
      · exact own_fi_all cs (fun z => h (Nat.succ_lt_succ z)) c hc

def own_dw (p : Int32) : Int32 := if (p &&& (3 : Int32)) = (0 : Int32) then (42 : Int32) else if (p &&& (3 : Int32)) = (1 : Int32) then (63 : Int32) else ((((p.toUInt32 >>> ((2 : Int32) &&& 31).toUInt32).toInt32) &&& (65535 : Int32)).toUInt32.toUInt16.toUInt32.toInt32)
def own_wild (c : Int32) : Int32 := if c = (42 : Int32) then 1 else if c = (63 : Int32) then 1 else 0
def own_gl (cs : List Int32) (n : Nat) : Int32 := if own_ixk cs (42 : Int32) 0 n < (0 : Int32) then (if own_ixk cs (63 : Int32) 0 n < (0 : Int32) then 0 else 1) else 1
theorem own_i2cn (y : Int32) : (y.toUInt32.toUInt16.toUInt32.toInt32).toBitVec.toNat < 65536 := by
  show (y.toUInt32.toUInt16.toUInt32.toBitVec).toNat < 65536
  have h := y.toUInt32.toUInt16.toBitVec.isLt
  show (y.toUInt32.toUInt16.toUInt32).toNat < 65536
  rw [UInt16.toNat_toUInt32]
  exact h
theorem own_i2cb (y : Int32) : ¬ y.toUInt32.toUInt16.toUInt32.toInt32 < 0 ∧ ¬ (65535 : Int32) < y.toUInt32.toUInt16.toUInt32.toInt32 := by
  have h := own_i2cn y
  have e : (y.toUInt32.toUInt16.toUInt32.toInt32).toInt = ((y.toUInt32.toUInt16.toUInt32.toInt32).toBitVec.toNat : Int) := by
    show (y.toUInt32.toUInt16.toUInt32.toInt32).toBitVec.toInt = _
    rw [BitVec.toInt_eq_toNat_cond, if_pos (by omega)]
  constructor <;> rw [Int32.lt_iff_toInt_lt, e]
  · show ¬ _ < (0 : Int); omega
  · show ¬ (65535 : Int) < _; omega
theorem own_mod5b (x : Int32) : ∃ n : Int32, ((x &&& (2147483647 : Int32)) % (5 : Int32)) = n ∧ (n = 0 ∨ n = 1 ∨ n = 2 ∨ n = 3 ∨ n = 4) := by
  have h : (x &&& (2147483647 : Int32)).toBitVec.toNat ≤ 2147483647 := by
    show ((x.toBitVec &&& 2147483647#32)).toNat ≤ 2147483647
    rw [BitVec.toNat_and]
    exact Nat.and_le_right
  have e : (x &&& (2147483647 : Int32)).toInt = ((x &&& (2147483647 : Int32)).toBitVec.toNat : Int) := by
    show (x &&& (2147483647 : Int32)).toBitVec.toInt = _
    rw [BitVec.toInt_eq_toNat_cond, if_pos (by omega)]
  refine ⟨_, rfl, ?_⟩
  have q : ((x &&& (2147483647 : Int32)) % (5 : Int32)).toInt = (((x &&& (2147483647 : Int32)).toBitVec.toNat % 5 : Nat) : Int) := by
    rw [Int32.toInt_mod, e, show (5 : Int32).toInt = 5 by decide, Int.tmod_eq_emod_of_nonneg (by omega)]
    omega
  have c : (x &&& (2147483647 : Int32)).toBitVec.toNat % 5 = 0 ∨ (x &&& (2147483647 : Int32)).toBitVec.toNat % 5 = 1 ∨ (x &&& (2147483647 : Int32)).toBitVec.toNat % 5 = 2 ∨ (x &&& (2147483647 : Int32)).toBitVec.toNat % 5 = 3 ∨ (x &&& (2147483647 : Int32)).toBitVec.toNat % 5 = 4 := by omega
  rcases c with c | c | c | c | c <;> rw [c] at q
  · exact Or.inl (Int32.toInt_inj.mp q)
  · exact Or.inr (Or.inl (Int32.toInt_inj.mp q))
  · exact Or.inr (Or.inr (Or.inl (Int32.toInt_inj.mp q)))
  · exact Or.inr (Or.inr (Or.inr (Or.inl (Int32.toInt_inj.mp q))))
  · exact Or.inr (Or.inr (Or.inr (Or.inr (Int32.toInt_inj.mp q))))

theorem own_dwb (p : Int32) : ¬ own_dw p < 0 ∧ ¬ (65535 : Int32) < own_dw p := by
  unfold own_dw
  split
  · decide
  · split
    · decide
    · exact own_i2cb _
def own_ex : List Int32 → Int32
  | [] => 0
  | c :: cs => if own_wild c = (0 : Int32) then own_ex cs else 1

theorem own_ixk_nn (cs : List Int32) (d : Int32) : ∀ k i, i + k ≤ 4000 → ¬ own_ixk cs d i k < (0 : Int32) → ∃ j, j < i + k ∧ cs.getD j 0 = d
  | 0, i, _, h => absurd (show (-1 : Int32) < 0 by decide) h
  | k + 1, i, b, h => by
    rw [own_ixk] at h
    split at h
    · rename_i q; exact ⟨i, by omega, q⟩
    · obtain ⟨j, h1, h2⟩ := own_ixk_nn cs d k (i + 1) (by omega) h
      exact ⟨j, by omega, h2⟩
theorem own_ixk_ng (cs : List Int32) (d : Int32) : ∀ k i, i + k ≤ 4000 → own_ixk cs d i k < (0 : Int32) → ∀ j, i ≤ j → j < i + k → ¬ cs.getD j 0 = d
  | 0, i, _, _, j, h1, h2 => absurd h2 (by omega)
  | k + 1, i, b, h, j, h1, h2 => by
    rw [own_ixk] at h
    split at h
    · exact absurd h (own_nneg _ (by omega))
    · rename_i q
      by_cases e : i = j
      · subst e; exact q
      · exact own_ixk_ng cs d k (i + 1) (by omega) h j (by omega) (by omega)
theorem own_ex_0 : ∀ cs : List Int32, (∀ j, j < cs.length → own_wild (cs.getD j 0) = (0 : Int32)) → own_ex cs = 0
  | [], _ => rfl
  | c :: cs, h => by
    rw [own_ex, if_pos (show own_wild c = (0 : Int32) from h 0 (Nat.zero_lt_succ _))]
    exact own_ex_0 cs (fun j q => h (j + 1) (Nat.succ_lt_succ q))
theorem own_ex_1 : ∀ (cs : List Int32) (j : Nat), j < cs.length → ¬ own_wild (cs.getD j 0) = (0 : Int32) → own_ex cs = 1
  | [], j, h, _ => absurd h (Nat.not_lt_zero _)
  | c :: cs, 0, _, q => by
    rw [own_ex]
    exact if_neg q
  | c :: cs, j + 1, h, q => by
    rw [own_ex]
    split
    · exact own_ex_1 cs j (Nat.lt_of_succ_lt_succ h) q
    · rfl
theorem own_wild0 {c : Int32} (h1 : ¬ c = (42 : Int32)) (h2 : ¬ c = (63 : Int32)) : own_wild c = (0 : Int32) := by rw [own_wild, if_neg h1, if_neg h2]
theorem own_wild1 {c : Int32} (h : c = (42 : Int32) ∨ c = (63 : Int32)) : ¬ own_wild c = (0 : Int32) := by rcases h with rfl | rfl <;> decide
theorem own_gl_ex (cs : List Int32) (n : Nat) (h : cs.length = n) (b : n ≤ 4000) : own_gl cs n = own_ex cs := by
  rw [own_gl]
  split
  · rename_i q
    split
    · rename_i q2
      rw [own_ex_0 cs (fun j hj => own_wild0 (own_ixk_ng cs _ n 0 (by omega) q j (by omega) (by omega)) (own_ixk_ng cs _ n 0 (by omega) q2 j (by omega) (by omega)))]
    · rename_i q2
      obtain ⟨j, h1, h2⟩ := own_ixk_nn cs _ n 0 (by omega) q2
      rw [own_ex_1 cs j (by omega) (own_wild1 (Or.inr h2))]
  · rename_i q
    obtain ⟨j, h1, h2⟩ := own_ixk_nn cs _ n 0 (by omega) q
    rw [own_ex_1 cs j (by omega) (own_wild1 (Or.inl h2))]

theorem ef_max (m : MethodId) (x0 : Int32) (x1 : Int32) : entryFrame m #[(.int x0), (.int x1)] 2 = mkF m 0 #[.val (.int x0), .val (.int x1)] [] := by first | (simp [entryFrame, mkF, argsToLocals, Value.category]; done) | rfl
def Q_max (Z : State) (p : Int32) (q : Int32) (h0 : Heap) (n0 : Nat) (vV : Option Value) (h : Heap) (LL : List Loc) : Prop := vV = some (.int (own_max p q)) ∧ LL = [] ∧ h = h0
set_option maxRecDepth 65536 in
set_option maxHeartbeats 40000000 in
theorem rm_max (l : Launch) (Z : State) (a0 : Array Value) (hw : ∀ d ∈ tables_1, d.before a0 Z = true) (ws : List Jvm.Cond) (p : Int32) (q : Int32) (h0 : Heap) (n0 : Nat) (O0 : Old Z n0 h0) :
    MetFree l (⟨"java/lang/Math", "max", "(II)I"⟩ : MethodName) (head1 (Jvm.Cond.code (⟨"java/lang/Math", "max", "(II)I"⟩ : MethodName) jdk_29_method_65_code 2 (some .int) :: ws) (⟨0, 0, 0, 0⟩ : Room)) (fun aa_ U => aa_ = #[(.int p), (.int q)] ∧ Z.Warmed39 U.vm ∧ U.heap = h0) (fun _ _ _ _ _ => True) (fun _ U o U' => ∃ vV LL, o = .returned vV ∧ Q_max Z p q h0 n0 vV U'.heap LL ∧ FrameEnd U o U' LL (⟨0, 0, 0, 0⟩ : Room).cells (⟨0, 0, 0, 0⟩ : Room).slots) := by
  refine MetFree.of_bodySF (Jvm.Free.JP.mathPlain rfl (by decide +kernel)) hisR ?_
  intro pP eE sS mM args below meth cC s₁ Bd hml0 hP hK
  obtain ⟨rfl, hZ, hh⟩ := hP
  have hx := Bd.exec
  have hby := Bd.bytes
  have hml : cC.maxLocals = 2 := hml0
  have hown : sS.vm.findClass "java/lang/Math" = some mM.cls := findClass_of_methodNamed Bd.named
  have hnm := (name_of_methodNamed Bd.named Bd.method).1
  have X0 : Stand pP l eE (⟨0, 0, 0, 0⟩ : Room) sS mM #[(.int p), (.int q)] below meth cC s₁ [] 0 0 := Stand.of_body Bd
  have e0 : s₁.heap = h0 := by rw [← hh, Bd.state]; rfl
  have N0 := Fr.nil n0
  have pre0 : ∀ tg, Steps pP.tables eE below (s₁.setTop (mkF mM 0 #[.val (.int p), .val (.int q)] [])) tg → Steps pP.tables eE below (s₁.setTop (entryFrame mM #[(.int p), (.int q)] 2)) tg := fun tg kg => castTop (ef_max mM p q) kg
  have pre2 : ∀ tg, Steps pP.tables eE below (s₁.setTop (mkF mM 2 #[.val (.int p), .val (.int q)] [(.int q), (.int p)])) tg → Steps pP.tables eE below (s₁.setTop (entryFrame mM #[(.int p), (.int q)] 2)) tg := fun tg kg => pre0 tg (by
    refine XS.iloadN X0.here hx rfl (hb hby dj29_65_0) rfl ?_
    show Steps _ _ _ (s₁.setTop (mkF mM 1 #[.val (.int p), .val (.int q)] [(.int p)])) _
    refine XS.iloadN X0.here hx rfl (hb hby dj29_65_1) rfl ?_
    exact kg)
  by_cases hc1 : p < q
  · obtain ⟨fs, hr, hrun, hended, hW, hsame⟩ := X0.leave (v := some (.int q)) (fun h => by rw [Bd.returns] at h; cases h)
    refine ⟨_, _, pre2 _ ?_, hrun, hended, _, _, rfl, ?_, ⟨_, rfl⟩, hW, hsame.mono (by decide) (by decide)⟩
    · refine XS.icmpYes X0.here hx rfl (pc0 := 2) (pc' := 9) rfl (hb hby dj29_65_2) rfl (tlt hc1).1 (by decide) (by decide) ?_
      show Steps _ _ _ (s₁.setTop (mkF mM 9 #[.val (.int p), .val (.int q)] [])) _
      refine XS.iloadN X0.here hx rfl (hb hby dj29_65_9) rfl ?_
      show Steps _ _ _ (s₁.setTop (mkF mM 10 #[.val (.int p), .val (.int q)] [(.int q)])) _
      exact retI X0 hx Bd.returns (hb hby dj29_65_10) hr
    · show Q_max Z p q h0 n0 _ s₁.heap _
      rw [e0]
      exact ⟨(by rw [own_max, if_pos hc1]), rfl, rfl⟩
  · obtain ⟨fs, hr, hrun, hended, hW, hsame⟩ := X0.leave (v := some (.int p)) (fun h => by rw [Bd.returns] at h; cases h)
    refine ⟨_, _, pre2 _ ?_, hrun, hended, _, _, rfl, ?_, ⟨_, rfl⟩, hW, hsame.mono (by decide) (by decide)⟩
    · refine XS.icmpNo X0.here hx rfl (hb hby dj29_65_2) rfl (flt hc1).1 ?_
      show Steps _ _ _ (s₁.setTop (mkF mM 5 #[.val (.int p), .val (.int q)] [])) _
      refine XS.iloadN X0.here hx rfl (hb hby dj29_65_5) rfl ?_
      show Steps _ _ _ (s₁.setTop (mkF mM 6 #[.val (.int p), .val (.int q)] [(.int p)])) _
      refine XS.goto X0.here hx rfl (pc0 := 6) (pc' := 10) rfl (hb hby dj29_65_6) (by decide) (by decide) ?_
      show Steps _ _ _ (s₁.setTop (mkF mM 10 #[.val (.int p), .val (.int q)] [(.int p)])) _
      exact retI X0 hx Bd.returns (hb hby dj29_65_10) hr
    · show Q_max Z p q h0 n0 _ s₁.heap _
      rw [e0]
      exact ⟨(by rw [own_max, if_neg hc1]), rfl, rfl⟩
theorem ef_min (m : MethodId) (x0 : Int32) (x1 : Int32) : entryFrame m #[(.int x0), (.int x1)] 2 = mkF m 0 #[.val (.int x0), .val (.int x1)] [] := by first | (simp [entryFrame, mkF, argsToLocals, Value.category]; done) | rfl
def Q_min (Z : State) (p : Int32) (q : Int32) (h0 : Heap) (n0 : Nat) (vV : Option Value) (h : Heap) (LL : List Loc) : Prop := vV = some (.int (own_min p q)) ∧ LL = [] ∧ h = h0
set_option maxRecDepth 65536 in
set_option maxHeartbeats 40000000 in
theorem rm_min (l : Launch) (Z : State) (a0 : Array Value) (hw : ∀ d ∈ tables_1, d.before a0 Z = true) (ws : List Jvm.Cond) (p : Int32) (q : Int32) (h0 : Heap) (n0 : Nat) (O0 : Old Z n0 h0) :
    MetFree l (⟨"java/lang/Math", "min", "(II)I"⟩ : MethodName) (head1 (Jvm.Cond.code (⟨"java/lang/Math", "min", "(II)I"⟩ : MethodName) jdk_29_method_69_code 2 (some .int) :: ws) (⟨0, 0, 0, 0⟩ : Room)) (fun aa_ U => aa_ = #[(.int p), (.int q)] ∧ Z.Warmed39 U.vm ∧ U.heap = h0) (fun _ _ _ _ _ => True) (fun _ U o U' => ∃ vV LL, o = .returned vV ∧ Q_min Z p q h0 n0 vV U'.heap LL ∧ FrameEnd U o U' LL (⟨0, 0, 0, 0⟩ : Room).cells (⟨0, 0, 0, 0⟩ : Room).slots) := by
  refine MetFree.of_bodySF (Jvm.Free.JP.mathPlain rfl (by decide +kernel)) hisR ?_
  intro pP eE sS mM args below meth cC s₁ Bd hml0 hP hK
  obtain ⟨rfl, hZ, hh⟩ := hP
  have hx := Bd.exec
  have hby := Bd.bytes
  have hml : cC.maxLocals = 2 := hml0
  have hown : sS.vm.findClass "java/lang/Math" = some mM.cls := findClass_of_methodNamed Bd.named
  have hnm := (name_of_methodNamed Bd.named Bd.method).1
  have X0 : Stand pP l eE (⟨0, 0, 0, 0⟩ : Room) sS mM #[(.int p), (.int q)] below meth cC s₁ [] 0 0 := Stand.of_body Bd
  have e0 : s₁.heap = h0 := by rw [← hh, Bd.state]; rfl
  have N0 := Fr.nil n0
  have pre0 : ∀ tg, Steps pP.tables eE below (s₁.setTop (mkF mM 0 #[.val (.int p), .val (.int q)] [])) tg → Steps pP.tables eE below (s₁.setTop (entryFrame mM #[(.int p), (.int q)] 2)) tg := fun tg kg => castTop (ef_min mM p q) kg
  have pre2 : ∀ tg, Steps pP.tables eE below (s₁.setTop (mkF mM 2 #[.val (.int p), .val (.int q)] [(.int q), (.int p)])) tg → Steps pP.tables eE below (s₁.setTop (entryFrame mM #[(.int p), (.int q)] 2)) tg := fun tg kg => pre0 tg (by
    refine XS.iloadN X0.here hx rfl (hb hby dj29_69_0) rfl ?_
    show Steps _ _ _ (s₁.setTop (mkF mM 1 #[.val (.int p), .val (.int q)] [(.int p)])) _
    refine XS.iloadN X0.here hx rfl (hb hby dj29_69_1) rfl ?_
    exact kg)
  by_cases hc1 : q < p
  · obtain ⟨fs, hr, hrun, hended, hW, hsame⟩ := X0.leave (v := some (.int q)) (fun h => by rw [Bd.returns] at h; cases h)
    refine ⟨_, _, pre2 _ ?_, hrun, hended, _, _, rfl, ?_, ⟨_, rfl⟩, hW, hsame.mono (by decide) (by decide)⟩
    · refine XS.icmpYes X0.here hx rfl (pc0 := 2) (pc' := 9) rfl (hb hby dj29_69_2) rfl (tlt hc1).2.2.1 (by decide) (by decide) ?_
      show Steps _ _ _ (s₁.setTop (mkF mM 9 #[.val (.int p), .val (.int q)] [])) _
      refine XS.iloadN X0.here hx rfl (hb hby dj29_69_9) rfl ?_
      show Steps _ _ _ (s₁.setTop (mkF mM 10 #[.val (.int p), .val (.int q)] [(.int q)])) _
      exact retI X0 hx Bd.returns (hb hby dj29_69_10) hr
    · show Q_min Z p q h0 n0 _ s₁.heap _
      rw [e0]
      exact ⟨(by rw [own_min, if_pos hc1]), rfl, rfl⟩
  · obtain ⟨fs, hr, hrun, hended, hW, hsame⟩ := X0.leave (v := some (.int p)) (fun h => by rw [Bd.returns] at h; cases h)
    refine ⟨_, _, pre2 _ ?_, hrun, hended, _, _, rfl, ?_, ⟨_, rfl⟩, hW, hsame.mono (by decide) (by decide)⟩
    · refine XS.icmpNo X0.here hx rfl (hb hby dj29_69_2) rfl (flt hc1).2.2.1 ?_
      show Steps _ _ _ (s₁.setTop (mkF mM 5 #[.val (.int p), .val (.int q)] [])) _
      refine XS.iloadN X0.here hx rfl (hb hby dj29_69_5) rfl ?_
      show Steps _ _ _ (s₁.setTop (mkF mM 6 #[.val (.int p), .val (.int q)] [(.int p)])) _
      refine XS.goto X0.here hx rfl (pc0 := 6) (pc' := 10) rfl (hb hby dj29_69_6) (by decide) (by decide) ?_
      show Steps _ _ _ (s₁.setTop (mkF mM 10 #[.val (.int p), .val (.int q)] [(.int p)])) _
      exact retI X0 hx Bd.returns (hb hby dj29_69_10) hr
    · show Q_min Z p q h0 n0 _ s₁.heap _
      rw [e0]
      exact ⟨(by rw [own_min, if_neg hc1]), rfl, rfl⟩
theorem ef_enc (m : MethodId) (x0 : Int32) : entryFrame m #[(.int x0)] 1 = mkF m 0 #[.val (.int x0)] [] := by first | (simp [entryFrame, mkF, argsToLocals, Value.category]; done) | rfl
def Q_enc (Z : State) (p : Int32) (h0 : Heap) (n0 : Nat) (vV : Option Value) (h : Heap) (LL : List Loc) : Prop := vV = some (.int (own_enc p)) ∧ LL = [] ∧ h = h0
set_option maxRecDepth 65536 in
set_option maxHeartbeats 40000000 in
theorem rm_enc (l : Launch) (Z : State) (a0 : Array Value) (hw : ∀ d ∈ tables_1, d.before a0 Z = true) (ws : List Jvm.Cond) (p : Int32) (h0 : Heap) (n0 : Nat) (O0 : Old Z n0 h0) :
    MetFree l (⟨"java/lang/StringLatin1", "canEncode", "(I)Z"⟩ : MethodName) (head1 (Jvm.Cond.code (⟨"java/lang/StringLatin1", "canEncode", "(I)Z"⟩ : MethodName) jdk_43_method_4_code 1 (some .boolean) :: ws) (⟨0, 0, 0, 0⟩ : Room)) (fun aa_ U => aa_ = #[(.int p)] ∧ Z.Warmed39 U.vm ∧ U.heap = h0) (fun _ _ _ _ _ => True) (fun _ U o U' => ∃ vV LL, o = .returned vV ∧ Q_enc Z p h0 n0 vV U'.heap LL ∧ FrameEnd U o U' LL (⟨0, 0, 0, 0⟩ : Room).cells (⟨0, 0, 0, 0⟩ : Room).slots) := by
  refine MetFree.of_bodySF (plainFor_of_name pn_0) hisR ?_
  intro pP eE sS mM args below meth cC s₁ Bd hml0 hP hK
  obtain ⟨rfl, hZ, hh⟩ := hP
  have hx := Bd.exec
  have hby := Bd.bytes
  have hml : cC.maxLocals = 1 := hml0
  have hown : sS.vm.findClass "java/lang/StringLatin1" = some mM.cls := findClass_of_methodNamed Bd.named
  have hnm := (name_of_methodNamed Bd.named Bd.method).1
  have X0 : Stand pP l eE (⟨0, 0, 0, 0⟩ : Room) sS mM #[(.int p)] below meth cC s₁ [] 0 0 := Stand.of_body Bd
  have e0 : s₁.heap = h0 := by rw [← hh, Bd.state]; rfl
  have N0 := Fr.nil n0
  have pre0 : ∀ tg, Steps pP.tables eE below (s₁.setTop (mkF mM 0 #[.val (.int p)] [])) tg → Steps pP.tables eE below (s₁.setTop (entryFrame mM #[(.int p)] 1)) tg := fun tg kg => castTop (ef_enc mM p) kg
  have pre2 : ∀ tg, Steps pP.tables eE below (s₁.setTop (mkF mM 1 #[.val (.int p)] [(.int p)])) tg → Steps pP.tables eE below (s₁.setTop (entryFrame mM #[(.int p)] 1)) tg := fun tg kg => pre0 tg (by
    refine XS.iloadN X0.here hx rfl (hb hby dj43_4_0) rfl ?_
    exact kg)
  by_cases hc1 : p < (0 : Int32)
  · obtain ⟨fs, hr, hrun, hended, hW, hsame⟩ := X0.leave (v := some (.int 0)) (fun h => by rw [Bd.returns] at h; cases h)
    refine ⟨_, _, pre2 _ ?_, hrun, hended, _, _, rfl, ?_, ⟨_, rfl⟩, hW, hsame.mono (by decide) (by decide)⟩
    · refine XS.ifYes X0.here hx rfl (pc0 := 1) (pc' := 15) rfl (hb hby dj43_4_1) rfl ((if0 _ _).trans (tlt hc1).1) (by decide) (by decide) ?_
      show Steps _ _ _ (s₁.setTop (mkF mM 15 #[.val (.int p)] [])) _
      refine XS.iconst X0.here hx rfl (hb hby dj43_4_15) ?_
      show Steps _ _ _ (s₁.setTop (mkF mM 16 #[.val (.int p)] [(.int 0)])) _
      exact retN X0 hx (t := .boolean) Bd.returns (by simp) (hb hby dj43_4_16) hr
    · show Q_enc Z p h0 n0 _ s₁.heap _
      rw [e0]
      exact ⟨(by rw [own_enc, if_pos hc1]), rfl, rfl⟩
  · have pre5 : ∀ tg, Steps pP.tables eE below (s₁.setTop (mkF mM 8 #[.val (.int p)] [(.int 255), (.int p)])) tg → Steps pP.tables eE below (s₁.setTop (entryFrame mM #[(.int p)] 1)) tg := fun tg kg => pre2 tg (by
      refine XS.ifNo X0.here hx rfl (hb hby dj43_4_1) rfl ((if0 _ _).trans (flt hc1).1) ?_
      show Steps _ _ _ (s₁.setTop (mkF mM 4 #[.val (.int p)] [])) _
      refine XS.iloadN X0.here hx rfl (hb hby dj43_4_4) rfl ?_
      show Steps _ _ _ (s₁.setTop (mkF mM 5 #[.val (.int p)] [(.int p)])) _
      refine XS.sipush X0.here hx rfl (hb hby dj43_4_5) ?_
      exact kg)
    by_cases hc4 : (255 : Int32) < p
    · obtain ⟨fs, hr, hrun, hended, hW, hsame⟩ := X0.leave (v := some (.int 0)) (fun h => by rw [Bd.returns] at h; cases h)
      refine ⟨_, _, pre5 _ ?_, hrun, hended, _, _, rfl, ?_, ⟨_, rfl⟩, hW, hsame.mono (by decide) (by decide)⟩
      · refine XS.icmpYes X0.here hx rfl (pc0 := 8) (pc' := 15) rfl (hb hby dj43_4_8) rfl (tlt hc4).2.2.1 (by decide) (by decide) ?_
        show Steps _ _ _ (s₁.setTop (mkF mM 15 #[.val (.int p)] [])) _
        refine XS.iconst X0.here hx rfl (hb hby dj43_4_15) ?_
        show Steps _ _ _ (s₁.setTop (mkF mM 16 #[.val (.int p)] [(.int 0)])) _
        exact retN X0 hx (t := .boolean) Bd.returns (by simp) (hb hby dj43_4_16) hr
      · show Q_enc Z p h0 n0 _ s₁.heap _
        rw [e0]
        exact ⟨(by rw [own_enc, if_neg hc1, if_pos hc4]), rfl, rfl⟩
    · obtain ⟨fs, hr, hrun, hended, hW, hsame⟩ := X0.leave (v := some (.int 1)) (fun h => by rw [Bd.returns] at h; cases h)
      refine ⟨_, _, pre5 _ ?_, hrun, hended, _, _, rfl, ?_, ⟨_, rfl⟩, hW, hsame.mono (by decide) (by decide)⟩
      · refine XS.icmpNo X0.here hx rfl (hb hby dj43_4_8) rfl (flt hc4).2.2.1 ?_
        show Steps _ _ _ (s₁.setTop (mkF mM 11 #[.val (.int p)] [])) _
        refine XS.iconst X0.here hx rfl (hb hby dj43_4_11) ?_
        show Steps _ _ _ (s₁.setTop (mkF mM 12 #[.val (.int p)] [(.int 1)])) _
        refine XS.goto X0.here hx rfl (pc0 := 12) (pc' := 16) rfl (hb hby dj43_4_12) (by decide) (by decide) ?_
        show Steps _ _ _ (s₁.setTop (mkF mM 16 #[.val (.int p)] [(.int 1)])) _
        exact retN X0 hx (t := .boolean) Bd.returns (by simp) (hb hby dj43_4_16) hr
      · show Q_enc Z p h0 n0 _ s₁.heap _
        rw [e0]
        exact ⟨(by rw [own_enc, if_neg hc1, if_neg hc4]), rfl, rfl⟩
theorem ef_lat (m : MethodId) (x0 : Addr) : entryFrame m #[(.ref x0)] 1 = mkF m 0 #[.val (.ref x0)] [] := by first | (simp [entryFrame, mkF, argsToLocals, Value.category]; done) | rfl
def Q_lat (Z : State) (x : Addr) (zc : Int32) (h0 : Heap) (n0 : Nat) (vV : Option Value) (h : Heap) (LL : List Loc) : Prop := vV = some (.int 1) ∧ LL = [] ∧ h = h0
set_option maxRecDepth 65536 in
set_option maxHeartbeats 40000000 in
theorem rm_lat (l : Launch) (Z : State) (a0 : Array Value) (hw : ∀ d ∈ tables_1, d.before a0 Z = true) (ws : List Jvm.Cond) (x : Addr) (zc : Int32) (h0 : Heap) (n0 : Nat) (O0 : Old Z n0 h0) (F_x_coder : Fld Z h0 x "java/lang/String" "coder" "B" (.int 0)) (S_COMPACT_STRINGS : Sta Z Z.heap "java/lang/String" "COMPACT_STRINGS" "Z" (.int zc)) (hp2 : (¬ (zc = (0 : Int32)))) :
    MetFree l (⟨"java/lang/String", "isLatin1", "()Z"⟩ : MethodName) (head1 (Jvm.Cond.code (⟨"java/lang/String", "isLatin1", "()Z"⟩ : MethodName) jdk_42_method_154_code 1 (some .boolean) :: ws) (⟨0, 0, 0, 0⟩ : Room)) (fun aa_ U => aa_ = #[(.ref x)] ∧ Z.Warmed39 U.vm ∧ U.heap = h0) (fun _ _ _ _ _ => True) (fun _ U o U' => ∃ vV LL, o = .returned vV ∧ Q_lat Z x zc h0 n0 vV U'.heap LL ∧ FrameEnd U o U' LL (⟨0, 0, 0, 0⟩ : Room).cells (⟨0, 0, 0, 0⟩ : Room).slots) := by
  refine MetFree.of_bodySF (plainFor_of_name pn_1) hisR ?_
  intro pP eE sS mM args below meth cC s₁ Bd hml0 hP hK
  obtain ⟨rfl, hZ, hh⟩ := hP
  have hx := Bd.exec
  have hby := Bd.bytes
  have hml : cC.maxLocals = 1 := hml0
  have hown : sS.vm.findClass "java/lang/String" = some mM.cls := findClass_of_methodNamed Bd.named
  have hnm := (name_of_methodNamed Bd.named Bd.method).1
  have X0 : Stand pP l eE (⟨0, 0, 0, 0⟩ : Room) sS mM #[(.ref x)] below meth cC s₁ [] 0 0 := Stand.of_body Bd
  have e0 : s₁.heap = h0 := by rw [← hh, Bd.state]; rfl
  have N0 := Fr.nil n0
  have pre0 : ∀ tg, Steps pP.tables eE below (s₁.setTop (mkF mM 0 #[.val (.ref x)] [])) tg → Steps pP.tables eE below (s₁.setTop (entryFrame mM #[(.ref x)] 1)) tg := fun tg kg => castTop (ef_lat mM x) kg
  obtain ⟨T1, X1, e1, st1⟩ := getS2 X0 hx hZ hown (host := "") (Or.inl (w_47 hw)) Via.refl e0 (Sta.ext (O0).2 S_COMPACT_STRINGS) (g := (mkF mM 0 #[.val (.ref x)] [])) rfl (hb hby dj42_154_0)
  obtain ⟨T2, X2, e2, st2⟩ := getF X1 hx hZ hown (host := "") (Or.inl (w_27 hw)) Via.refl e1 F_x_coder (g := (mkF mM 7 #[.val (.ref x)] [(.ref x)])) rfl rfl (hb hby dj42_154_7)
  obtain ⟨fs, hr, hrun, hended, hW, hsame⟩ := X2.leave (v := some (.int 1)) (fun h => by rw [Bd.returns] at h; cases h)
  refine ⟨_, _, pre0 _ ?_, hrun, hended, _, _, rfl, ?_, ⟨_, rfl⟩, hW, hsame.mono (by decide) (by decide)⟩
  · refine st1 _ ?_
    show Steps _ _ _ (T1.setTop (mkF mM 3 #[.val (.ref x)] [(.int zc)])) _
    refine XS.ifNo X1.here hx rfl (hb hby dj42_154_3) rfl ((if0 _ _).trans (feq hp2).1) ?_
    show Steps _ _ _ (T1.setTop (mkF mM 6 #[.val (.ref x)] [])) _
    refine XS.aloadN X1.here hx rfl (hb hby dj42_154_6) rfl rfl ?_
    show Steps _ _ _ (T1.setTop (mkF mM 7 #[.val (.ref x)] [(.ref x)])) _
    refine st2 _ ?_
    show Steps _ _ _ (T2.setTop (mkF mM 10 #[.val (.ref x)] [(.int 0)])) _
    refine XS.ifNo X2.here hx rfl (hb hby dj42_154_10) rfl ((if0 _ _).trans (teq (by decide : (0 : Int32) = (0 : Int32))).2) ?_
    show Steps _ _ _ (T2.setTop (mkF mM 13 #[.val (.ref x)] [])) _
    refine XS.iconst X2.here hx rfl (hb hby dj42_154_13) ?_
    show Steps _ _ _ (T2.setTop (mkF mM 14 #[.val (.ref x)] [(.int 1)])) _
    refine XS.goto X2.here hx rfl (pc0 := 14) (pc' := 18) rfl (hb hby dj42_154_14) (by decide) (by decide) ?_
    show Steps _ _ _ (T2.setTop (mkF mM 18 #[.val (.ref x)] [(.int 1)])) _
    exact retN X2 hx (t := .boolean) Bd.returns (by simp) (hb hby dj42_154_18) hr
  · show Q_lat Z x zc h0 n0 _ T2.heap _
    rw [e2]
    exact ⟨rfl, rfl, rfl⟩
theorem ef_ulen (m : MethodId) (x0 : Addr) : entryFrame m #[(.ref x0)] 1 = mkF m 0 #[.val (.ref x0)] [] := by first | (simp [entryFrame, mkF, argsToLocals, Value.category]; done) | rfl
def Q_ulen (Z : State) (t : Addr) (k : ClassId) (n : Nat) (vs : List Value) (h0 : Heap) (n0 : Nat) (vV : Option Value) (h : Heap) (LL : List Loc) : Prop := vV = some (.int (Int32.ofNat n)) ∧ LL = [] ∧ h = h0
set_option maxRecDepth 65536 in
set_option maxHeartbeats 40000000 in
theorem rm_ulen (l : Launch) (Z : State) (a0 : Array Value) (hw : ∀ d ∈ tables_1, d.before a0 Z = true) (ws : List Jvm.Cond) (t : Addr) (k : ClassId) (n : Nat) (vs : List Value) (h0 : Heap) (n0 : Nat) (O0 : Old Z n0 h0) (V_t : Arv Z h0 t k .byte (Int32.ofNat (2 * n)) vs (.int 0)) (hp1 : (n ≤ 4000)) :
    MetFree l (⟨"java/lang/StringUTF16", "length", "([B)I"⟩ : MethodName) (head1 (Jvm.Cond.code (⟨"java/lang/StringUTF16", "length", "([B)I"⟩ : MethodName) jdk_52_method_6_code 1 (some .int) :: ws) (⟨0, 0, 0, 0⟩ : Room)) (fun aa_ U => aa_ = #[(.ref t)] ∧ Z.Warmed39 U.vm ∧ U.heap = h0) (fun _ _ _ _ _ => True) (fun _ U o U' => ∃ vV LL, o = .returned vV ∧ Q_ulen Z t k n vs h0 n0 vV U'.heap LL ∧ FrameEnd U o U' LL (⟨0, 0, 0, 0⟩ : Room).cells (⟨0, 0, 0, 0⟩ : Room).slots) := by
  refine MetFree.of_bodySF (plainFor_of_name pn_2) hisR ?_
  intro pP eE sS mM args below meth cC s₁ Bd hml0 hP hK
  obtain ⟨rfl, hZ, hh⟩ := hP
  have hx := Bd.exec
  have hby := Bd.bytes
  have hml : cC.maxLocals = 1 := hml0
  have hown : sS.vm.findClass "java/lang/StringUTF16" = some mM.cls := findClass_of_methodNamed Bd.named
  have hnm := (name_of_methodNamed Bd.named Bd.method).1
  have X0 : Stand pP l eE (⟨0, 0, 0, 0⟩ : Room) sS mM #[(.ref t)] below meth cC s₁ [] 0 0 := Stand.of_body Bd
  have e0 : s₁.heap = h0 := by rw [← hh, Bd.state]; rfl
  have N0 := Fr.nil n0
  have pre0 : ∀ tg, Steps pP.tables eE below (s₁.setTop (mkF mM 0 #[.val (.ref t)] [])) tg → Steps pP.tables eE below (s₁.setTop (entryFrame mM #[(.ref t)] 1)) tg := fun tg kg => castTop (ef_ulen mM t) kg
  obtain ⟨cl1, Ar1, -, S1, Nn1, -, -⟩ := id V_t
  obtain ⟨fs, hr, hrun, hended, hW, hsame⟩ := X0.leave (v := some (.int (Int32.ofNat n))) (fun h => by rw [Bd.returns] at h; cases h)
  refine ⟨_, _, pre0 _ ?_, hrun, hended, _, _, rfl, ?_, ⟨_, rfl⟩, hW, hsame.mono (by decide) (by decide)⟩
  · refine XS.aloadN X0.here hx rfl (hb hby dj52_6_0) rfl rfl ?_
    show Steps _ _ _ (s₁.setTop (mkF mM 1 #[.val (.ref t)] [(.ref t)])) _
    refine X0.arraylength hx (by rw [e0]; exact Ar1.1) (State.isArrayOf_alike hZ.alike Ar1.2.1) (g := (mkF mM 1 #[.val (.ref t)] [(.ref t)])) rfl rfl (hb hby dj52_6_1) _ ?_
    rw [len_of S1 Nn1]
    show Steps _ _ _ (s₁.setTop (mkF mM 2 #[.val (.ref t)] [(.int (Int32.ofNat (2 * n)))])) _
    refine XS.iconst X0.here hx rfl (hb hby dj52_6_2) ?_
    show Steps _ _ _ (s₁.setTop (mkF mM 3 #[.val (.ref t)] [(.int 1), (.int (Int32.ofNat (2 * n)))])) _
    refine XS.ishr X0.here hx rfl (hb hby dj52_6_3) rfl ?_
    show Steps _ _ _ (s₁.setTop (mkF mM 4 #[.val (.ref t)] [(.int ((Int32.ofNat (2 * n)) >>> ((1 : Int32) &&& 31)))])) _
    rw [StrChars.shr1 (n := n) (by omega)]
    show Steps _ _ _ (s₁.setTop (mkF mM 4 #[.val (.ref t)] [(.int (Int32.ofNat n))])) _
    exact retI X0 hx Bd.returns (hb hby dj52_6_4) hr
  · show Q_ulen Z t k n vs h0 n0 _ s₁.heap _
    rw [e0]
    exact ⟨rfl, rfl, rfl⟩
theorem ef_nbl (m : MethodId) (x0 : Int32) : entryFrame m #[(.int x0)] 1 = mkF m 0 #[.val (.int x0)] [] := by first | (simp [entryFrame, mkF, argsToLocals, Value.category]; done) | rfl
def Q_nbl (Z : State) (n : Nat) (h0 : Heap) (n0 : Nat) (vV : Option Value) (h : Heap) (LL : List Loc) : Prop := vV = some (.int (Int32.ofNat (2 * n))) ∧ LL = [] ∧ h = h0
set_option maxRecDepth 65536 in
set_option maxHeartbeats 40000000 in
theorem rm_nbl (l : Launch) (Z : State) (a0 : Array Value) (hw : ∀ d ∈ tables_1, d.before a0 Z = true) (ws : List Jvm.Cond) (n : Nat) (h0 : Heap) (n0 : Nat) (O0 : Old Z n0 h0) (hp0 : (n ≤ 4)) :
    MetFree l (⟨"java/lang/StringUTF16", "newBytesLength", "(I)I"⟩ : MethodName) (head1 (Jvm.Cond.code (⟨"java/lang/StringUTF16", "newBytesLength", "(I)I"⟩ : MethodName) jdk_52_method_3_code 1 (some .int) :: ws) (⟨0, 0, 0, 0⟩ : Room)) (fun aa_ U => aa_ = #[(.int (Int32.ofNat n))] ∧ Z.Warmed39 U.vm ∧ U.heap = h0) (fun _ _ _ _ _ => True) (fun _ U o U' => ∃ vV LL, o = .returned vV ∧ Q_nbl Z n h0 n0 vV U'.heap LL ∧ FrameEnd U o U' LL (⟨0, 0, 0, 0⟩ : Room).cells (⟨0, 0, 0, 0⟩ : Room).slots) := by
  refine MetFree.of_bodySF (plainFor_of_name pn_2) hisR ?_
  intro pP eE sS mM args below meth cC s₁ Bd hml0 hP hK
  obtain ⟨rfl, hZ, hh⟩ := hP
  have hx := Bd.exec
  have hby := Bd.bytes
  have hml : cC.maxLocals = 1 := hml0
  have hown : sS.vm.findClass "java/lang/StringUTF16" = some mM.cls := findClass_of_methodNamed Bd.named
  have hnm := (name_of_methodNamed Bd.named Bd.method).1
  have X0 : Stand pP l eE (⟨0, 0, 0, 0⟩ : Room) sS mM #[(.int (Int32.ofNat n))] below meth cC s₁ [] 0 0 := Stand.of_body Bd
  have e0 : s₁.heap = h0 := by rw [← hh, Bd.state]; rfl
  have N0 := Fr.nil n0
  have pre0 : ∀ tg, Steps pP.tables eE below (s₁.setTop (mkF mM 0 #[.val (.int (Int32.ofNat n))] [])) tg → Steps pP.tables eE below (s₁.setTop (entryFrame mM #[(.int (Int32.ofNat n))] 1)) tg := fun tg kg => castTop (ef_nbl mM (Int32.ofNat n)) kg
  obtain ⟨fs, hr, hrun, hended, hW, hsame⟩ := X0.leave (v := some (.int (Int32.ofNat (2 * n)))) (fun h => by rw [Bd.returns] at h; cases h)
  refine ⟨_, _, pre0 _ ?_, hrun, hended, _, _, rfl, ?_, ⟨_, rfl⟩, hW, hsame.mono (by decide) (by decide)⟩
  · refine XS.iloadN X0.here hx rfl (hb hby dj52_3_0) rfl ?_
    show Steps _ _ _ (s₁.setTop (mkF mM 1 #[.val (.int (Int32.ofNat n))] [(.int (Int32.ofNat n))])) _
    refine XS.ifYes X0.here hx rfl (pc0 := 1) (pc' := 12) rfl (hb hby dj52_3_1) rfl ((if0 _ _).trans (flt (own_nneg _ (by omega))).2.1) (by decide) (by decide) ?_
    show Steps _ _ _ (s₁.setTop (mkF mM 12 #[.val (.int (Int32.ofNat n))] [])) _
    refine XS.iloadN X0.here hx rfl (hb hby dj52_3_12) rfl ?_
    show Steps _ _ _ (s₁.setTop (mkF mM 13 #[.val (.int (Int32.ofNat n))] [(.int (Int32.ofNat n))])) _
    refine X0.ldcInt hx hown (mvT hZ (w_97 hw)) (g := (mkF mM 13 #[.val (.int (Int32.ofNat n))] [(.int (Int32.ofNat n))])) rfl (hb hby dj52_3_13) _ ?_
    show Steps _ _ _ (s₁.setTop (mkF mM 15 #[.val (.int (Int32.ofNat n))] [(.int 1073741823), (.int (Int32.ofNat n))])) _
    refine XS.icmpYes X0.here hx rfl (pc0 := 15) (pc' := 55) rfl (hb hby dj52_3_15) rfl (tlt (own_lt (j := 1073741823) (by omega) (by omega))).1 (by decide) (by decide) ?_
    show Steps _ _ _ (s₁.setTop (mkF mM 55 #[.val (.int (Int32.ofNat n))] [])) _
    refine XS.iloadN X0.here hx rfl (hb hby dj52_3_55) rfl ?_
    show Steps _ _ _ (s₁.setTop (mkF mM 56 #[.val (.int (Int32.ofNat n))] [(.int (Int32.ofNat n))])) _
    refine XS.iconst X0.here hx rfl (hb hby dj52_3_56) ?_
    show Steps _ _ _ (s₁.setTop (mkF mM 57 #[.val (.int (Int32.ofNat n))] [(.int 1), (.int (Int32.ofNat n))])) _
    refine XS.ishl X0.here hx rfl (hb hby dj52_3_57) rfl ?_
    show Steps _ _ _ (s₁.setTop (mkF mM 58 #[.val (.int (Int32.ofNat n))] [(.int ((Int32.ofNat n) <<< ((1 : Int32) &&& 31)))])) _
    rw [own_shl1 (j := n) (by omega)]
    show Steps _ _ _ (s₁.setTop (mkF mM 58 #[.val (.int (Int32.ofNat n))] [(.int (Int32.ofNat (2 * n)))])) _
    exact retI X0 hx Bd.returns (hb hby dj52_3_58) hr
  · show Q_nbl Z n h0 n0 _ s₁.heap _
    rw [e0]
    exact ⟨rfl, rfl, rfl⟩
theorem ef_nbf (m : MethodId) (x0 : Int32) : entryFrame m #[(.int x0)] 1 = mkF m 0 #[.val (.int x0)] [] := by first | (simp [entryFrame, mkF, argsToLocals, Value.category]; done) | rfl
def Q_nbf (Z : State) (n : Nat) (h0 : Heap) (n0 : Nat) (vV : Option Value) (h : Heap) (LL : List Loc) : Prop := ∃ (t : Addr) (k : ClassId), vV = some (.ref t) ∧ Fr n0 LL ∧ Keep h0 h [] ∧ h0.size ≤ t ∧ Arv Z h t k .byte (Int32.ofNat (2 * n)) (List.replicate (2 * n) (Value.int (0 : Int32))) (.int 0)
set_option maxRecDepth 65536 in
set_option maxHeartbeats 40000000 in
theorem rm_nbf (l : Launch) (Z : State) (a0 : Array Value) (hw : ∀ d ∈ tables_1, d.before a0 Z = true) (ws : List Jvm.Cond) (n : Nat) (h0 : Heap) (n0 : Nat) (O0 : Old Z n0 h0) (hp0 : (n ≤ 4)) :
    MetFree l (⟨"java/lang/StringUTF16", "newBytesFor", "(I)[B"⟩ : MethodName) (head1 (Jvm.Cond.code (⟨"java/lang/StringUTF16", "newBytesFor", "(I)[B"⟩ : MethodName) jdk_52_method_2_code 1 (some (.array .byte)) :: ws) (⟨1, 1, 8, 12⟩ : Room)) (fun aa_ U => aa_ = #[(.int (Int32.ofNat n))] ∧ Z.Warmed39 U.vm ∧ U.heap = h0) (fun _ _ _ _ _ => True) (fun _ U o U' => ∃ vV LL, o = .returned vV ∧ Q_nbf Z n h0 n0 vV U'.heap LL ∧ FrameEnd U o U' LL (⟨1, 1, 8, 12⟩ : Room).cells (⟨1, 1, 8, 12⟩ : Room).slots) := by
  refine MetFree.of_bodySF (plainFor_of_name pn_2) hisR ?_
  intro pP eE sS mM args below meth cC s₁ Bd hml0 hP hK
  obtain ⟨rfl, hZ, hh⟩ := hP
  have hx := Bd.exec
  have hby := Bd.bytes
  have hml : cC.maxLocals = 1 := hml0
  have hown : sS.vm.findClass "java/lang/StringUTF16" = some mM.cls := findClass_of_methodNamed Bd.named
  have hnm := (name_of_methodNamed Bd.named Bd.method).1
  have X0 : Stand pP l eE (⟨1, 1, 8, 12⟩ : Room) sS mM #[(.int (Int32.ofNat n))] below meth cC s₁ [] 0 0 := Stand.of_body Bd
  have e0 : s₁.heap = h0 := by rw [← hh, Bd.state]; rfl
  have N0 := Fr.nil n0
  have pre0 : ∀ tg, Steps pP.tables eE below (s₁.setTop (mkF mM 0 #[.val (.int (Int32.ofNat n))] [])) tg → Steps pP.tables eE below (s₁.setTop (entryFrame mM #[(.int (Int32.ofNat n))] 1)) tg := fun tg kg => castTop (ef_nbf mM (Int32.ofNat n)) kg
  have K0 : Keep h0 h0 [] := Keep.refl _ _
  obtain ⟨_, _, ⟨T1, L1, k1, n1⟩, -, X1, ⟨Lc1, hQ1, l1, y1, z1⟩, st1⟩ := Jvm.LawKit.callS X0 hx (y := (⟨"java/lang/StringUTF16", "newBytesLength", "(I)I"⟩ : MethodName)) hown (mvT hZ (w_94 hw)) (mvT hZ (w_95 hw)) (mvT hZ (w_74 hw)) (mvT hZ (w_96 hw)) (by decide) (backOf (W := 0) (rm_nbl l Z a0 hw [] n h0 n0 O0 (hp0 : n ≤ 4)) hZ (w_96 hw) (w_74 hw) (by decide) (by decide)) (g := (mkF mM 1 #[.val (.int (Int32.ofNat n))] [(.int (Int32.ofNat n))])) rfl (by rw [hml]; rfl) (argsL := [(.int (Int32.ofNat n))]) (rest := []) (lenOf pd_0 rfl) rfl (by show 2 * 0 + _ ≤ _; exact Nat.le_of_eq rfl) (hb hby dj52_2_1) (fun _ _ => ⟨rfl, e0, (by decide : 0 + 0 ≤ _), (by decide : 0 + 0 ≤ _)⟩)
  dsimp only [Pt.U, Pt.locs, Pt.cells, Pt.slots] at X1 l1 y1 z1 st1 hQ1
  subst l1 y1 z1
  obtain ⟨rfl, rfl, Kq1⟩ := hQ1
  try rw [List.append_nil] at X1
  obtain ⟨T2, h2, k2, X2, e2, E2, A2, st2⟩ := newP X1 hx hZ (aty := .byte) (w_21 hw) Kq1 (g := (mkF mM 4 #[.val (.int (Int32.ofNat n))] [(.int (Int32.ofNat (2 * n)))])) rfl (hb hby dj52_2_4) rfl (own_nneg _ (by omega)) (cap := 8) (by rw [own_clamp (by omega)]; omega) (by decide) (by decide) (by decide)
  obtain ⟨b2, g2⟩ : ∃ z, z = h0.size := ⟨_, rfl⟩
  rw [← g2] at A2 st2
  have g_b2 : n0 ≤ b2 := Nat.le_trans (own_osz O0) (Nat.le_of_eq g2.symm)
  have sz_b2 : h0.size ≤ b2 := Nat.le_trans K0.1 (Nat.le_of_eq g2.symm)
  have K3 : Keep h0 h2 [] := K0.ext E2
  have V2 : Arv Z h2 b2 k2 .byte (Int32.ofNat (2 * n)) [] (.int 0) := Arv.new A2 (own_nneg _ (by omega))
  obtain ⟨fs, hr, hrun, hended, hW, hsame⟩ := X2.leave (v := some (.ref b2)) (fun h => by rw [Bd.returns] at h; cases h)
  refine ⟨_, _, pre0 _ ?_, hrun, hended, _, _, rfl, ?_, ⟨_, rfl⟩, hW, hsame.mono (by decide) (by decide)⟩
  · refine XS.iloadN X0.here hx rfl (hb hby dj52_2_0) rfl ?_
    show Steps _ _ _ (s₁.setTop (mkF mM 1 #[.val (.int (Int32.ofNat n))] [(.int (Int32.ofNat n))])) _
    refine st1 _ ?_
    show Steps _ _ _ (T1.setTop (mkF mM 4 #[.val (.int (Int32.ofNat n))] [(.int (Int32.ofNat (2 * n)))])) _
    refine st2 _ ?_
    show Steps _ _ _ (T2.setTop (mkF mM 6 #[.val (.int (Int32.ofNat n))] [(.ref b2)])) _
    jvm_step X2.here [X2.here.top, hx, (hb hby dj52_2_6), X2.method', Bd.returns, Value.isRef, FieldType.isReference]
    first | (intro acts; rw [hr _ acts rfl rfl rfl]) | rw [hr _ _ rfl rfl rfl]
    exact Steps.refl _
  · show Q_nbf Z n h0 n0 _ T2.heap _
    rw [e2]
    exact ⟨b2, k2, rfl, N0, K3, sz_b2, (Arv.pad V2 (pad_rep [] (.int 0) (2 * n)))⟩
theorem ef_puc (m : MethodId) (x0 : Addr) (x1 : Int32) (x2 : Int32) : entryFrame m #[(.ref x0), (.int x1), (.int x2)] 3 = mkF m 0 #[.val (.ref x0), .val (.int x1), .val (.int x2)] [] := by first | (simp [entryFrame, mkF, argsToLocals, Value.category]; done) | rfl
def Q_puc (Z : State) (t : Addr) (k : ClassId) (n : Nat) (vs : List Value) (j : Nat) (c : Int32) (h0 : Heap) (n0 : Nat) (vV : Option Value) (h : Heap) (LL : List Loc) : Prop := vV = none ∧ Fr n0 LL ∧ Keep h0 h [t] ∧ Arv Z h t k .byte (Int32.ofNat (2 * n)) (((vs).set (2 * j) (.int (own_lo c))).set (2 * j + 1) (.int (own_hi c))) (.int 0)
set_option maxRecDepth 65536 in
set_option maxHeartbeats 40000000 in
theorem rm_puc (l : Launch) (Z : State) (a0 : Array Value) (hw : ∀ d ∈ tables_1, d.before a0 Z = true) (ws : List Jvm.Cond) (t : Addr) (k : ClassId) (n : Nat) (vs : List Value) (j : Nat) (c : Int32) (h0 : Heap) (n0 : Nat) (O0 : Old Z n0 h0) (V_t : Arv Z h0 t k .byte (Int32.ofNat (2 * n)) vs (.int 0)) (hp1 : (vs.length = 2 * n)) (hp2 : (j < n ∧ n ≤ 4)) (g_t : n0 ≤ t) (S__assertionsDisabled : Sta Z Z.heap "java/lang/StringUTF16" "$assertionsDisabled" "Z" (.int 1)) (S_HI_BYTE_SHIFT : Sta Z Z.heap "java/lang/StringUTF16" "HI_BYTE_SHIFT" "I" (.int 0)) (S_LO_BYTE_SHIFT : Sta Z Z.heap "java/lang/StringUTF16" "LO_BYTE_SHIFT" "I" (.int 8)) :
    MetFree l (⟨"java/lang/StringUTF16", "putChar", "([BII)V"⟩ : MethodName) (head1 (Jvm.Cond.code (⟨"java/lang/StringUTF16", "putChar", "([BII)V"⟩ : MethodName) jdk_52_method_4_code 3 none :: ws) (⟨0, 0, 0, 0⟩ : Room)) (fun aa_ U => aa_ = #[(.ref t), (.int (Int32.ofNat j)), (.int c)] ∧ Z.Warmed39 U.vm ∧ U.heap = h0) (fun _ _ _ _ _ => True) (fun _ U o U' => ∃ vV LL, o = .returned vV ∧ Q_puc Z t k n vs j c h0 n0 vV U'.heap LL ∧ FrameEnd U o U' LL (⟨0, 0, 0, 0⟩ : Room).cells (⟨0, 0, 0, 0⟩ : Room).slots) := by
  refine MetFree.of_bodySF (plainFor_of_name pn_2) hisR ?_
  intro pP eE sS mM args below meth cC s₁ Bd hml0 hP hK
  obtain ⟨rfl, hZ, hh⟩ := hP
  have hx := Bd.exec
  have hby := Bd.bytes
  have hml : cC.maxLocals = 3 := hml0
  have hown : sS.vm.findClass "java/lang/StringUTF16" = some mM.cls := findClass_of_methodNamed Bd.named
  have hnm := (name_of_methodNamed Bd.named Bd.method).1
  have X0 : Stand pP l eE (⟨0, 0, 0, 0⟩ : Room) sS mM #[(.ref t), (.int (Int32.ofNat j)), (.int c)] below meth cC s₁ [] 0 0 := Stand.of_body Bd
  have e0 : s₁.heap = h0 := by rw [← hh, Bd.state]; rfl
  have N0 := Fr.nil n0
  have pre0 : ∀ tg, Steps pP.tables eE below (s₁.setTop (mkF mM 0 #[.val (.ref t), .val (.int (Int32.ofNat j)), .val (.int c)] [])) tg → Steps pP.tables eE below (s₁.setTop (entryFrame mM #[(.ref t), (.int (Int32.ofNat j)), (.int c)] 3)) tg := fun tg kg => castTop (ef_puc mM t (Int32.ofNat j) c) kg
  have K0 : Keep h0 h0 [t] := Keep.refl _ _
  obtain ⟨T1, X1, e1, st1⟩ := getS2 X0 hx hZ hown (host := "") (Or.inl (w_101 hw)) Via.refl e0 (Sta.ext (O0).2 S__assertionsDisabled) (g := (mkF mM 0 #[.val (.ref t), .val (.int (Int32.ofNat j)), .val (.int c)] [])) rfl (hb hby dj52_4_0)
  obtain ⟨T2, X2, e2, st2⟩ := getS2 X1 hx hZ hown (host := "") (Or.inl (w_102 hw)) Via.refl e1 (Sta.ext (O0).2 S_HI_BYTE_SHIFT) (g := (mkF mM 38 #[.val (.ref t), .val (.int ((Int32.ofNat (2 * j)) + (1 : Int32))), .val (.int c)] [(.int c), (.int (Int32.ofNat (2 * j))), (.ref t)])) rfl (hb hby dj52_4_38)
  obtain ⟨cl3, Ar3, qk3, S3, Nn3, Hh3, G3⟩ := id V_t
  have hin3 : ¬ ((Int32.ofNat (2 * j)) < 0 ∨ cl3.slots.size ≤ ((Int32.ofNat (2 * j))).toNatClampNeg) := inb_of S3 ⟨own_nneg _ (by omega), own_lt (by omega) (by omega)⟩
  obtain ⟨T3, h3, X3, e3, W3, st3⟩ := stB X2 hx hZ e2 Ar3 (j := (Int32.ofNat (2 * j))) hin3 (g := (mkF mM 43 #[.val (.ref t), .val (.int ((Int32.ofNat (2 * j)) + (1 : Int32))), .val (.int c)] [(.int ((c >>> ((0 : Int32) &&& 31)).toInt8.toInt32)), (.int (Int32.ofNat (2 * j))), (.ref t)])) rfl rfl (hb hby dj52_4_43)
  rw [(show nar .byte ((c >>> ((0 : Int32) &&& 31)).toInt8.toInt32) = own_lo c from own_narb _)] at W3
  have K4 : Keep h0 h3 [t] := K0.wr W3 (Or.inl (List.mem_of_getElem? (i := 0) rfl))
  have V3 : Arv Z h3 t k .byte (Int32.ofNat (2 * n)) ((vs).set (2 * j) (.int (own_lo c))) (.int 0) := Arv.set Ar3 qk3 S3 Nn3 Hh3 G3 ((show nar .byte ((c >>> ((0 : Int32) &&& 31)).toInt8.toInt32) = own_lo c from own_narb _) ▸ fits_nar_byte _) W3 (2 * j) (own_clamp (by omega)) (by omega)
  have N3 := Fr.snoc X3 N0 g_t
  have f5 := (O0.wr W3 g_t)
  obtain ⟨T6, X6, e6, st6⟩ := getS2 X3 hx hZ hown (host := "") (Or.inl (w_103 hw)) Via.refl e3 (Sta.ext (f5).2 S_LO_BYTE_SHIFT) (g := (mkF mM 47 #[.val (.ref t), .val (.int ((Int32.ofNat (2 * j)) + (1 : Int32))), .val (.int c)] [(.int c), (.int ((Int32.ofNat (2 * j)) + (1 : Int32))), (.ref t)])) rfl (hb hby dj52_4_47)
  obtain ⟨cl7, Ar7, qk7, S7, Nn7, Hh7, G7⟩ := id V3
  have hin7 : ¬ (((Int32.ofNat (2 * j)) + (1 : Int32)) < 0 ∨ cl7.slots.size ≤ (((Int32.ofNat (2 * j)) + (1 : Int32))).toNatClampNeg) := inb_of S7 ⟨by rw [own_inc]; exact own_nneg _ (by omega), by rw [own_inc]; exact own_lt (by omega) (by omega)⟩
  obtain ⟨T7, h7, X7, e7, W7, st7⟩ := stB X6 hx hZ e6 Ar7 (j := ((Int32.ofNat (2 * j)) + (1 : Int32))) hin7 (g := (mkF mM 52 #[.val (.ref t), .val (.int ((Int32.ofNat (2 * j)) + (1 : Int32))), .val (.int c)] [(.int ((c >>> ((8 : Int32) &&& 31)).toInt8.toInt32)), (.int ((Int32.ofNat (2 * j)) + (1 : Int32))), (.ref t)])) rfl rfl (hb hby dj52_4_52)
  rw [(show nar .byte ((c >>> ((8 : Int32) &&& 31)).toInt8.toInt32) = own_hi c from own_narb _)] at W7
  have K8 : Keep h0 h7 [t] := K4.wr W7 (Or.inl (List.mem_of_getElem? (i := 0) rfl))
  have V7 : Arv Z h7 t k .byte (Int32.ofNat (2 * n)) ((((vs).set (2 * j) (.int (own_lo c)))).set (2 * j + 1) (.int (own_hi c))) (.int 0) := Arv.set Ar7 qk7 S7 Nn7 Hh7 G7 ((show nar .byte ((c >>> ((8 : Int32) &&& 31)).toInt8.toInt32) = own_hi c from own_narb _) ▸ fits_nar_byte _) W7 (2 * j + 1) (by rw [own_inc]; exact own_clamp (by omega)) (by rw [List.length_set]; omega)
  have N7 := Fr.snoc X7 N3 g_t
  obtain ⟨fs, hr, hrun, hended, hW, hsame⟩ := X7.leave (v := none) (fun _ => rfl)
  refine ⟨_, _, pre0 _ ?_, hrun, hended, _, _, rfl, ?_, ⟨_, rfl⟩, hW, hsame.mono (by decide) (by decide)⟩
  · refine st1 _ ?_
    show Steps _ _ _ (T1.setTop (mkF mM 3 #[.val (.ref t), .val (.int (Int32.ofNat j)), .val (.int c)] [(.int 1)])) _
    refine XS.ifYes X1.here hx rfl (pc0 := 3) (pc' := 28) rfl (hb hby dj52_4_3) rfl ((if0 _ _).trans (feq (by decide : ¬ ((1 : Int32) = (0 : Int32)))).2) (by decide) (by decide) ?_
    show Steps _ _ _ (T1.setTop (mkF mM 28 #[.val (.ref t), .val (.int (Int32.ofNat j)), .val (.int c)] [])) _
    refine XS.iloadN X1.here hx rfl (hb hby dj52_4_28) rfl ?_
    show Steps _ _ _ (T1.setTop (mkF mM 29 #[.val (.ref t), .val (.int (Int32.ofNat j)), .val (.int c)] [(.int (Int32.ofNat j))])) _
    refine XS.iconst X1.here hx rfl (hb hby dj52_4_29) ?_
    show Steps _ _ _ (T1.setTop (mkF mM 30 #[.val (.ref t), .val (.int (Int32.ofNat j)), .val (.int c)] [(.int 1), (.int (Int32.ofNat j))])) _
    refine XS.ishl X1.here hx rfl (hb hby dj52_4_30) rfl ?_
    show Steps _ _ _ (T1.setTop (mkF mM 31 #[.val (.ref t), .val (.int (Int32.ofNat j)), .val (.int c)] [(.int ((Int32.ofNat j) <<< ((1 : Int32) &&& 31)))])) _
    rw [own_shl1 (j := j) (by omega)]
    show Steps _ _ _ (T1.setTop (mkF mM 31 #[.val (.ref t), .val (.int (Int32.ofNat j)), .val (.int c)] [(.int (Int32.ofNat (2 * j)))])) _
    refine XS.istoreN X1.here hx rfl (hb hby dj52_4_31) rfl (l' := #[.val (.ref t), .val (.int (Int32.ofNat (2 * j))), .val (.int c)]) rfl ?_
    show Steps _ _ _ (T1.setTop (mkF mM 32 #[.val (.ref t), .val (.int (Int32.ofNat (2 * j))), .val (.int c)] [])) _
    refine XS.aloadN X1.here hx rfl (hb hby dj52_4_32) rfl rfl ?_
    show Steps _ _ _ (T1.setTop (mkF mM 33 #[.val (.ref t), .val (.int (Int32.ofNat (2 * j))), .val (.int c)] [(.ref t)])) _
    refine XS.iloadN X1.here hx rfl (hb hby dj52_4_33) rfl ?_
    show Steps _ _ _ (T1.setTop (mkF mM 34 #[.val (.ref t), .val (.int (Int32.ofNat (2 * j))), .val (.int c)] [(.int (Int32.ofNat (2 * j))), (.ref t)])) _
    refine XS.iinc X1.here hx rfl (hb hby dj52_4_34) rfl (l' := #[.val (.ref t), .val (.int ((Int32.ofNat (2 * j)) + (1 : Int32))), .val (.int c)]) rfl ?_
    show Steps _ _ _ (T1.setTop (mkF mM 37 #[.val (.ref t), .val (.int ((Int32.ofNat (2 * j)) + (1 : Int32))), .val (.int c)] [(.int (Int32.ofNat (2 * j))), (.ref t)])) _
    refine XS.iloadN X1.here hx rfl (hb hby dj52_4_37) rfl ?_
    show Steps _ _ _ (T1.setTop (mkF mM 38 #[.val (.ref t), .val (.int ((Int32.ofNat (2 * j)) + (1 : Int32))), .val (.int c)] [(.int c), (.int (Int32.ofNat (2 * j))), (.ref t)])) _
    refine st2 _ ?_
    show Steps _ _ _ (T2.setTop (mkF mM 41 #[.val (.ref t), .val (.int ((Int32.ofNat (2 * j)) + (1 : Int32))), .val (.int c)] [(.int 0), (.int c), (.int (Int32.ofNat (2 * j))), (.ref t)])) _
    refine XS.ishr X2.here hx rfl (hb hby dj52_4_41) rfl ?_
    show Steps _ _ _ (T2.setTop (mkF mM 42 #[.val (.ref t), .val (.int ((Int32.ofNat (2 * j)) + (1 : Int32))), .val (.int c)] [(.int (c >>> ((0 : Int32) &&& 31))), (.int (Int32.ofNat (2 * j))), (.ref t)])) _
    refine XS.i2b X2.here hx rfl (hb hby dj52_4_42) rfl ?_
    show Steps _ _ _ (T2.setTop (mkF mM 43 #[.val (.ref t), .val (.int ((Int32.ofNat (2 * j)) + (1 : Int32))), .val (.int c)] [(.int ((c >>> ((0 : Int32) &&& 31)).toInt8.toInt32)), (.int (Int32.ofNat (2 * j))), (.ref t)])) _
    refine st3 _ ?_
    show Steps _ _ _ (T3.setTop (mkF mM 44 #[.val (.ref t), .val (.int ((Int32.ofNat (2 * j)) + (1 : Int32))), .val (.int c)] [])) _
    refine XS.aloadN X3.here hx rfl (hb hby dj52_4_44) rfl rfl ?_
    show Steps _ _ _ (T3.setTop (mkF mM 45 #[.val (.ref t), .val (.int ((Int32.ofNat (2 * j)) + (1 : Int32))), .val (.int c)] [(.ref t)])) _
    refine XS.iloadN X3.here hx rfl (hb hby dj52_4_45) rfl ?_
    show Steps _ _ _ (T3.setTop (mkF mM 46 #[.val (.ref t), .val (.int ((Int32.ofNat (2 * j)) + (1 : Int32))), .val (.int c)] [(.int ((Int32.ofNat (2 * j)) + (1 : Int32))), (.ref t)])) _
    refine XS.iloadN X3.here hx rfl (hb hby dj52_4_46) rfl ?_
    show Steps _ _ _ (T3.setTop (mkF mM 47 #[.val (.ref t), .val (.int ((Int32.ofNat (2 * j)) + (1 : Int32))), .val (.int c)] [(.int c), (.int ((Int32.ofNat (2 * j)) + (1 : Int32))), (.ref t)])) _
    refine st6 _ ?_
    show Steps _ _ _ (T6.setTop (mkF mM 50 #[.val (.ref t), .val (.int ((Int32.ofNat (2 * j)) + (1 : Int32))), .val (.int c)] [(.int 8), (.int c), (.int ((Int32.ofNat (2 * j)) + (1 : Int32))), (.ref t)])) _
    refine XS.ishr X6.here hx rfl (hb hby dj52_4_50) rfl ?_
    show Steps _ _ _ (T6.setTop (mkF mM 51 #[.val (.ref t), .val (.int ((Int32.ofNat (2 * j)) + (1 : Int32))), .val (.int c)] [(.int (c >>> ((8 : Int32) &&& 31))), (.int ((Int32.ofNat (2 * j)) + (1 : Int32))), (.ref t)])) _
    refine XS.i2b X6.here hx rfl (hb hby dj52_4_51) rfl ?_
    show Steps _ _ _ (T6.setTop (mkF mM 52 #[.val (.ref t), .val (.int ((Int32.ofNat (2 * j)) + (1 : Int32))), .val (.int c)] [(.int ((c >>> ((8 : Int32) &&& 31)).toInt8.toInt32)), (.int ((Int32.ofNat (2 * j)) + (1 : Int32))), (.ref t)])) _
    refine st7 _ ?_
    show Steps _ _ _ (T7.setTop (mkF mM 53 #[.val (.ref t), .val (.int ((Int32.ofNat (2 * j)) + (1 : Int32))), .val (.int c)] [])) _
    exact X7.returnOut hx Bd.returns (hb hby dj52_4_53) hr
  · show Q_puc Z t k n vs j c h0 n0 _ T7.heap _
    rw [e7]
    exact ⟨rfl, N7, K8, V7⟩
theorem ef_gch (m : MethodId) (x0 : Addr) (x1 : Int32) : entryFrame m #[(.ref x0), (.int x1)] 2 = mkF m 0 #[.val (.ref x0), .val (.int x1)] [] := by first | (simp [entryFrame, mkF, argsToLocals, Value.category]; done) | rfl
def Q_gch (Z : State) (t : Addr) (k : ClassId) (n : Nat) (cs : List Int32) (j : Nat) (h0 : Heap) (n0 : Nat) (vV : Option Value) (h : Heap) (LL : List Loc) : Prop := vV = some (.int (cs.getD j 0)) ∧ LL = [] ∧ h = h0
set_option maxRecDepth 65536 in
set_option maxHeartbeats 40000000 in
theorem rm_gch (l : Launch) (Z : State) (a0 : Array Value) (hw : ∀ d ∈ tables_1, d.before a0 Z = true) (ws : List Jvm.Cond) (t : Addr) (k : ClassId) (n : Nat) (cs : List Int32) (j : Nat) (h0 : Heap) (n0 : Nat) (O0 : Old Z n0 h0) (V_t : Arv Z h0 t k .byte (Int32.ofNat (2 * n)) (own_u16 cs) (.int 0)) (hp1 : (cs.length = n ∧ n ≤ 4)) (hp2 : (j < n)) (hp3 : (∀ c ∈ cs, ¬ c < 0 ∧ ¬ (65535 : Int32) < c)) (S__assertionsDisabled : Sta Z Z.heap "java/lang/StringUTF16" "$assertionsDisabled" "Z" (.int 1)) (S_HI_BYTE_SHIFT : Sta Z Z.heap "java/lang/StringUTF16" "HI_BYTE_SHIFT" "I" (.int 0)) (S_LO_BYTE_SHIFT : Sta Z Z.heap "java/lang/StringUTF16" "LO_BYTE_SHIFT" "I" (.int 8)) :
    MetFree l (⟨"java/lang/StringUTF16", "getChar", "([BI)C"⟩ : MethodName) (head1 (Jvm.Cond.code (⟨"java/lang/StringUTF16", "getChar", "([BI)C"⟩ : MethodName) jdk_52_method_5_code 2 (some .char) :: ws) (⟨0, 0, 0, 0⟩ : Room)) (fun aa_ U => aa_ = #[(.ref t), (.int (Int32.ofNat j))] ∧ Z.Warmed39 U.vm ∧ U.heap = h0) (fun _ _ _ _ _ => True) (fun _ U o U' => ∃ vV LL, o = .returned vV ∧ Q_gch Z t k n cs j h0 n0 vV U'.heap LL ∧ FrameEnd U o U' LL (⟨0, 0, 0, 0⟩ : Room).cells (⟨0, 0, 0, 0⟩ : Room).slots) := by
  refine MetFree.of_bodySF (plainFor_of_name pn_2) hisR ?_
  intro pP eE sS mM args below meth cC s₁ Bd hml0 hP hK
  obtain ⟨rfl, hZ, hh⟩ := hP
  have hx := Bd.exec
  have hby := Bd.bytes
  have hml : cC.maxLocals = 2 := hml0
  have hown : sS.vm.findClass "java/lang/StringUTF16" = some mM.cls := findClass_of_methodNamed Bd.named
  have hnm := (name_of_methodNamed Bd.named Bd.method).1
  have X0 : Stand pP l eE (⟨0, 0, 0, 0⟩ : Room) sS mM #[(.ref t), (.int (Int32.ofNat j))] below meth cC s₁ [] 0 0 := Stand.of_body Bd
  have e0 : s₁.heap = h0 := by rw [← hh, Bd.state]; rfl
  have N0 := Fr.nil n0
  have pre0 : ∀ tg, Steps pP.tables eE below (s₁.setTop (mkF mM 0 #[.val (.ref t), .val (.int (Int32.ofNat j))] [])) tg → Steps pP.tables eE below (s₁.setTop (entryFrame mM #[(.ref t), (.int (Int32.ofNat j))] 2)) tg := fun tg kg => castTop (ef_gch mM t (Int32.ofNat j)) kg
  obtain ⟨T1, X1, e1, st1⟩ := getS2 X0 hx hZ hown (host := "") (Or.inl (w_101 hw)) Via.refl e0 (Sta.ext (O0).2 S__assertionsDisabled) (g := (mkF mM 0 #[.val (.ref t), .val (.int (Int32.ofNat j))] [])) rfl (hb hby dj52_5_0)
  obtain ⟨cl2, Ar2, -, S2, Nn2, Hh2, -⟩ := id V_t
  have hin2 : ¬ ((Int32.ofNat (2 * j)) < 0 ∨ cl2.slots.size ≤ ((Int32.ofNat (2 * j))).toNatClampNeg) := inb_of S2 ⟨own_nneg _ (by omega), own_lt (by omega) (by omega)⟩
  have hat2 : cl2.slots[((Int32.ofNat (2 * j))).toNatClampNeg]? = some (.int (own_lo (cs.getD j 0))) := Hh2.at hin2 (by rw [own_clamp (by omega)]; exact own_u16_lo cs j (by omega))
  obtain ⟨T3, X3, e3, st3⟩ := getS2 X1 hx hZ hown (host := "") (Or.inl (w_102 hw)) Via.refl e1 (Sta.ext (O0).2 S_HI_BYTE_SHIFT) (g := (mkF mM 42 #[.val (.ref t), .val (.int ((Int32.ofNat (2 * j)) + (1 : Int32)))] [(.int ((own_lo (cs.getD j 0)) &&& (255 : Int32)))])) rfl (hb hby dj52_5_42)
  obtain ⟨cl4, Ar4, -, S4, Nn4, Hh4, -⟩ := id V_t
  have hin4 : ¬ (((Int32.ofNat (2 * j)) + (1 : Int32)) < 0 ∨ cl4.slots.size ≤ (((Int32.ofNat (2 * j)) + (1 : Int32))).toNatClampNeg) := inb_of S4 ⟨by rw [own_inc]; exact own_nneg _ (by omega), by rw [own_inc]; exact own_lt (by omega) (by omega)⟩
  have hat4 : cl4.slots[(((Int32.ofNat (2 * j)) + (1 : Int32))).toNatClampNeg]? = some (.int (own_hi (cs.getD j 0))) := Hh4.at hin4 (by rw [own_inc, own_clamp (by omega)]; exact own_u16_hi cs j (by omega))
  obtain ⟨T5, X5, e5, st5⟩ := getS2 X3 hx hZ hown (host := "") (Or.inl (w_103 hw)) Via.refl e3 (Sta.ext (O0).2 S_LO_BYTE_SHIFT) (g := (mkF mM 53 #[.val (.ref t), .val (.int ((Int32.ofNat (2 * j)) + (1 : Int32)))] [(.int ((own_hi (cs.getD j 0)) &&& (255 : Int32))), (.int (((own_lo (cs.getD j 0)) &&& (255 : Int32)) <<< ((0 : Int32) &&& 31)))])) rfl (hb hby dj52_5_53)
  obtain ⟨fs, hr, hrun, hended, hW, hsame⟩ := X5.leave (v := some (.int (nar .char (cs.getD j 0)))) (fun h => by rw [Bd.returns] at h; cases h)
  refine ⟨_, _, pre0 _ ?_, hrun, hended, _, _, rfl, ?_, ⟨_, rfl⟩, hW, hsame.mono (by decide) (by decide)⟩
  · refine st1 _ ?_
    show Steps _ _ _ (T1.setTop (mkF mM 3 #[.val (.ref t), .val (.int (Int32.ofNat j))] [(.int 1)])) _
    refine XS.ifYes X1.here hx rfl (pc0 := 3) (pc' := 28) rfl (hb hby dj52_5_3) rfl ((if0 _ _).trans (feq (by decide : ¬ ((1 : Int32) = (0 : Int32)))).2) (by decide) (by decide) ?_
    show Steps _ _ _ (T1.setTop (mkF mM 28 #[.val (.ref t), .val (.int (Int32.ofNat j))] [])) _
    refine XS.iloadN X1.here hx rfl (hb hby dj52_5_28) rfl ?_
    show Steps _ _ _ (T1.setTop (mkF mM 29 #[.val (.ref t), .val (.int (Int32.ofNat j))] [(.int (Int32.ofNat j))])) _
    refine XS.iconst X1.here hx rfl (hb hby dj52_5_29) ?_
    show Steps _ _ _ (T1.setTop (mkF mM 30 #[.val (.ref t), .val (.int (Int32.ofNat j))] [(.int 1), (.int (Int32.ofNat j))])) _
    refine XS.ishl X1.here hx rfl (hb hby dj52_5_30) rfl ?_
    show Steps _ _ _ (T1.setTop (mkF mM 31 #[.val (.ref t), .val (.int (Int32.ofNat j))] [(.int ((Int32.ofNat j) <<< ((1 : Int32) &&& 31)))])) _
    rw [own_shl1 (j := j) (by omega)]
    show Steps _ _ _ (T1.setTop (mkF mM 31 #[.val (.ref t), .val (.int (Int32.ofNat j))] [(.int (Int32.ofNat (2 * j)))])) _
    refine XS.istoreN X1.here hx rfl (hb hby dj52_5_31) rfl (l' := #[.val (.ref t), .val (.int (Int32.ofNat (2 * j)))]) rfl ?_
    show Steps _ _ _ (T1.setTop (mkF mM 32 #[.val (.ref t), .val (.int (Int32.ofNat (2 * j)))] [])) _
    refine XS.aloadN X1.here hx rfl (hb hby dj52_5_32) rfl rfl ?_
    show Steps _ _ _ (T1.setTop (mkF mM 33 #[.val (.ref t), .val (.int (Int32.ofNat (2 * j)))] [(.ref t)])) _
    refine XS.iloadN X1.here hx rfl (hb hby dj52_5_33) rfl ?_
    show Steps _ _ _ (T1.setTop (mkF mM 34 #[.val (.ref t), .val (.int (Int32.ofNat (2 * j)))] [(.int (Int32.ofNat (2 * j))), (.ref t)])) _
    refine XS.iinc X1.here hx rfl (hb hby dj52_5_34) rfl (l' := #[.val (.ref t), .val (.int ((Int32.ofNat (2 * j)) + (1 : Int32)))]) rfl ?_
    show Steps _ _ _ (T1.setTop (mkF mM 37 #[.val (.ref t), .val (.int ((Int32.ofNat (2 * j)) + (1 : Int32)))] [(.int (Int32.ofNat (2 * j))), (.ref t)])) _
    refine X1.baloadBytes hx (j := (Int32.ofNat (2 * j))) (v := (.int (own_lo (cs.getD j 0)))) (by rw [e1]; exact Ar2.1) (State.isArrayOf_alike hZ.alike Ar2.2.1) Ar2.2.2 hin2 hat2 (g := (mkF mM 37 #[.val (.ref t), .val (.int ((Int32.ofNat (2 * j)) + (1 : Int32)))] [(.int (Int32.ofNat (2 * j))), (.ref t)])) rfl rfl (hb hby dj52_5_37) _ ?_
    show Steps _ _ _ (T1.setTop (mkF mM 38 #[.val (.ref t), .val (.int ((Int32.ofNat (2 * j)) + (1 : Int32)))] [(.int (own_lo (cs.getD j 0)))])) _
    refine XS.sipush X1.here hx rfl (hb hby dj52_5_38) ?_
    show Steps _ _ _ (T1.setTop (mkF mM 41 #[.val (.ref t), .val (.int ((Int32.ofNat (2 * j)) + (1 : Int32)))] [(.int 255), (.int (own_lo (cs.getD j 0)))])) _
    refine XS.iand X1.here hx rfl (hb hby dj52_5_41) rfl ?_
    show Steps _ _ _ (T1.setTop (mkF mM 42 #[.val (.ref t), .val (.int ((Int32.ofNat (2 * j)) + (1 : Int32)))] [(.int ((own_lo (cs.getD j 0)) &&& (255 : Int32)))])) _
    refine st3 _ ?_
    show Steps _ _ _ (T3.setTop (mkF mM 45 #[.val (.ref t), .val (.int ((Int32.ofNat (2 * j)) + (1 : Int32)))] [(.int 0), (.int ((own_lo (cs.getD j 0)) &&& (255 : Int32)))])) _
    refine XS.ishl X3.here hx rfl (hb hby dj52_5_45) rfl ?_
    show Steps _ _ _ (T3.setTop (mkF mM 46 #[.val (.ref t), .val (.int ((Int32.ofNat (2 * j)) + (1 : Int32)))] [(.int (((own_lo (cs.getD j 0)) &&& (255 : Int32)) <<< ((0 : Int32) &&& 31)))])) _
    refine XS.aloadN X3.here hx rfl (hb hby dj52_5_46) rfl rfl ?_
    show Steps _ _ _ (T3.setTop (mkF mM 47 #[.val (.ref t), .val (.int ((Int32.ofNat (2 * j)) + (1 : Int32)))] [(.ref t), (.int (((own_lo (cs.getD j 0)) &&& (255 : Int32)) <<< ((0 : Int32) &&& 31)))])) _
    refine XS.iloadN X3.here hx rfl (hb hby dj52_5_47) rfl ?_
    show Steps _ _ _ (T3.setTop (mkF mM 48 #[.val (.ref t), .val (.int ((Int32.ofNat (2 * j)) + (1 : Int32)))] [(.int ((Int32.ofNat (2 * j)) + (1 : Int32))), (.ref t), (.int (((own_lo (cs.getD j 0)) &&& (255 : Int32)) <<< ((0 : Int32) &&& 31)))])) _
    refine X3.baloadBytes hx (j := ((Int32.ofNat (2 * j)) + (1 : Int32))) (v := (.int (own_hi (cs.getD j 0)))) (by rw [e3]; exact Ar4.1) (State.isArrayOf_alike hZ.alike Ar4.2.1) Ar4.2.2 hin4 hat4 (g := (mkF mM 48 #[.val (.ref t), .val (.int ((Int32.ofNat (2 * j)) + (1 : Int32)))] [(.int ((Int32.ofNat (2 * j)) + (1 : Int32))), (.ref t), (.int (((own_lo (cs.getD j 0)) &&& (255 : Int32)) <<< ((0 : Int32) &&& 31)))])) rfl rfl (hb hby dj52_5_48) _ ?_
    show Steps _ _ _ (T3.setTop (mkF mM 49 #[.val (.ref t), .val (.int ((Int32.ofNat (2 * j)) + (1 : Int32)))] [(.int (own_hi (cs.getD j 0))), (.int (((own_lo (cs.getD j 0)) &&& (255 : Int32)) <<< ((0 : Int32) &&& 31)))])) _
    refine XS.sipush X3.here hx rfl (hb hby dj52_5_49) ?_
    show Steps _ _ _ (T3.setTop (mkF mM 52 #[.val (.ref t), .val (.int ((Int32.ofNat (2 * j)) + (1 : Int32)))] [(.int 255), (.int (own_hi (cs.getD j 0))), (.int (((own_lo (cs.getD j 0)) &&& (255 : Int32)) <<< ((0 : Int32) &&& 31)))])) _
    refine XS.iand X3.here hx rfl (hb hby dj52_5_52) rfl ?_
    show Steps _ _ _ (T3.setTop (mkF mM 53 #[.val (.ref t), .val (.int ((Int32.ofNat (2 * j)) + (1 : Int32)))] [(.int ((own_hi (cs.getD j 0)) &&& (255 : Int32))), (.int (((own_lo (cs.getD j 0)) &&& (255 : Int32)) <<< ((0 : Int32) &&& 31)))])) _
    refine st5 _ ?_
    show Steps _ _ _ (T5.setTop (mkF mM 56 #[.val (.ref t), .val (.int ((Int32.ofNat (2 * j)) + (1 : Int32)))] [(.int 8), (.int ((own_hi (cs.getD j 0)) &&& (255 : Int32))), (.int (((own_lo (cs.getD j 0)) &&& (255 : Int32)) <<< ((0 : Int32) &&& 31)))])) _
    refine XS.ishl X5.here hx rfl (hb hby dj52_5_56) rfl ?_
    show Steps _ _ _ (T5.setTop (mkF mM 57 #[.val (.ref t), .val (.int ((Int32.ofNat (2 * j)) + (1 : Int32)))] [(.int (((own_hi (cs.getD j 0)) &&& (255 : Int32)) <<< ((8 : Int32) &&& 31))), (.int (((own_lo (cs.getD j 0)) &&& (255 : Int32)) <<< ((0 : Int32) &&& 31)))])) _
    refine XS.ior X5.here hx rfl (hb hby dj52_5_57) rfl ?_
    show Steps _ _ _ (T5.setTop (mkF mM 58 #[.val (.ref t), .val (.int ((Int32.ofNat (2 * j)) + (1 : Int32)))] [(.int ((((own_lo (cs.getD j 0)) &&& (255 : Int32)) <<< ((0 : Int32) &&& 31)) ||| (((own_hi (cs.getD j 0)) &&& (255 : Int32)) <<< ((8 : Int32) &&& 31))))])) _
    refine XS.i2c X5.here hx rfl (hb hby dj52_5_58) rfl ?_
    show Steps _ _ _ (T5.setTop (mkF mM 59 #[.val (.ref t), .val (.int ((Int32.ofNat (2 * j)) + (1 : Int32)))] [(.int (((((own_lo (cs.getD j 0)) &&& (255 : Int32)) <<< ((0 : Int32) &&& 31)) ||| (((own_hi (cs.getD j 0)) &&& (255 : Int32)) <<< ((8 : Int32) &&& 31))).toUInt32.toUInt16.toUInt32.toInt32))])) _
    rw [own_gc (hp3 _ (own_mem cs (i := j) (by omega)))]
    show Steps _ _ _ (T5.setTop (mkF mM 59 #[.val (.ref t), .val (.int ((Int32.ofNat (2 * j)) + (1 : Int32)))] [(.int (cs.getD j 0))])) _
    exact retN X5 hx (t := .char) Bd.returns (by simp) (hb hby dj52_5_59) hr
  · show Q_gch Z t k n cs j h0 n0 _ T5.heap _
    rw [e5]
    exact ⟨(by rw [own_nc16 (hp3 _ (own_mem cs (i := j) (by omega)))]), rfl, rfl⟩
set_option maxRecDepth 65536 in
set_option maxHeartbeats 40000000 in
theorem lp_iou {pP : Program} {l : Launch} {eE : Env} {sS : State} {mM : MethodId} {args : Array Value} {below : List Frame} {meth : Method} {cC : Code} {locs : List Loc} {Z : State} {a0 : Array Value} (t : Addr) (k : ClassId) (n : Nat) (cs : List Int32) (d : Int32) {h0 : Heap} {n0 : Nat} (hx : pP.tables.exec = Jvm.exec) (hZ : Z.Warmed39 sS.vm) (hw : ∀ d ∈ tables_1, d.before a0 Z = true) (hby : cC.code = jdk_52_method_48_code) (hml : cC.maxLocals = 5) (hown : sS.vm.findClass "java/lang/StringUTF16" = some mM.cls) (O0 : Old Z n0 h0) (V_t : Arv Z h0 t k .byte (Int32.ofNat (2 * n)) (own_u16 cs) (.int 0)) (hp1 : (cs.length = n ∧ n ≤ 4)) (hp2 : (∀ c ∈ cs, ¬ c < 0 ∧ ¬ (65535 : Int32) < c)) (S__assertionsDisabled : Sta Z Z.heap "java/lang/StringUTF16" "$assertionsDisabled" "Z" (.int 1)) (S_HI_BYTE_SHIFT : Sta Z Z.heap "java/lang/StringUTF16" "HI_BYTE_SHIFT" "I" (.int 0)) (S_LO_BYTE_SHIFT : Sta Z Z.heap "java/lang/StringUTF16" "LO_BYTE_SHIFT" "I" (.int 8)) :
    ∀ (kq : Nat) (i : Nat) {T0 : State} (X0 : Stand pP l eE (⟨1, 0, 0, 13⟩ : Room) sS mM args below meth cC T0 locs 0 0) (e0 : T0.heap = h0) (hik : i + kq = n), own_ToP pP l eE (⟨1, 0, 0, 13⟩ : Room) sS mM args below meth cC locs 0 0 h0 T0 (mkF mM 3 #[.val (.ref t), .val (.int d), .val (.int 0), .val (.int (Int32.ofNat n)), .val (.int (Int32.ofNat i))] []) (fun g' => (∃ Ls, g' = mkF mM 21 Ls [(.int (own_ixk cs d i kq))]) ∨ (∃ Ls, g' = mkF mM 29 Ls [(.int (own_ixk cs d i kq))])) := by
  intro kq
  induction kq with
  | zero =>
    intro i T0 X0 e0 hik
    refine ⟨T0, mkF mM 29 #[.val (.ref t), .val (.int d), .val (.int 0), .val (.int (Int32.ofNat n)), .val (.int (Int32.ofNat i))] [(.int (own_ixk cs d i 0))], Or.inr (⟨_, rfl⟩), X0, e0, fun tg kg => ?_⟩
    rw [show own_ixk cs d i 0 = (-1 : Int32) from rfl] at kg
    refine XS.iload X0.here hx rfl (hb hby dj52_48_3) rfl ?_
    show Steps _ _ _ (T0.setTop (mkF mM 5 #[.val (.ref t), .val (.int d), .val (.int 0), .val (.int (Int32.ofNat n)), .val (.int (Int32.ofNat i))] [(.int (Int32.ofNat i))])) _
    refine XS.iloadN X0.here hx rfl (hb hby dj52_48_5) rfl ?_
    show Steps _ _ _ (T0.setTop (mkF mM 6 #[.val (.ref t), .val (.int d), .val (.int 0), .val (.int (Int32.ofNat n)), .val (.int (Int32.ofNat i))] [(.int (Int32.ofNat n)), (.int (Int32.ofNat i))])) _
    refine XS.icmpYes X0.here hx rfl (pc0 := 6) (pc' := 28) rfl (hb hby dj52_48_6) rfl (flt (own_nlt (by omega) (by omega))).2.1 (by decide) (by decide) ?_
    show Steps _ _ _ (T0.setTop (mkF mM 28 #[.val (.ref t), .val (.int d), .val (.int 0), .val (.int (Int32.ofNat n)), .val (.int (Int32.ofNat i))] [])) _
    refine XS.iconst X0.here hx rfl (hb hby dj52_48_28) ?_
    exact kg
  | succ kq ih =>
    intro i T0 X0 e0 hik
    obtain ⟨_, _, ⟨T1, L1, k1, n1⟩, -, X1, ⟨Lc1, hQ1, l1, y1, z1⟩, st1⟩ := Jvm.LawKit.callS X0 hx (y := (⟨"java/lang/StringUTF16", "getChar", "([BI)C"⟩ : MethodName)) hown (mvT hZ (w_104 hw)) (mvT hZ (w_105 hw)) (mvT hZ (w_74 hw)) (mvT hZ (w_106 hw)) (by decide) (backOf (W := 0) (rm_gch l Z a0 hw [] t k n cs i h0 n0 O0 V_t hp1 (by omega : i < n) (hp2 : ∀ c ∈ cs, ¬ c < 0 ∧ ¬ (65535 : Int32) < c) S__assertionsDisabled S_HI_BYTE_SHIFT S_LO_BYTE_SHIFT) hZ (w_106 hw) (w_74 hw) (by decide) (by decide)) (g := (mkF mM 12 #[.val (.ref t), .val (.int d), .val (.int 0), .val (.int (Int32.ofNat n)), .val (.int (Int32.ofNat i))] [(.int (Int32.ofNat i)), (.ref t)])) rfl (by rw [hml]; rfl) (argsL := [(.ref t), (.int (Int32.ofNat i))]) (rest := []) (lenOf pd_1 rfl) rfl (by show 2 * 0 + _ ≤ _; exact Nat.le_of_eq rfl) (hb hby dj52_48_12) (fun _ _ => ⟨rfl, e0, (by decide : 0 + 0 ≤ _), (by decide : 0 + 0 ≤ _)⟩)
    dsimp only [Pt.U, Pt.locs, Pt.cells, Pt.slots] at X1 l1 y1 z1 st1 hQ1
    subst l1 y1 z1
    obtain ⟨rfl, rfl, Kq1⟩ := hQ1
    try rw [List.append_nil] at X1
    have pre3 : ∀ tg, Steps pP.tables eE below (T1.setTop (mkF mM 16 #[.val (.ref t), .val (.int d), .val (.int 0), .val (.int (Int32.ofNat n)), .val (.int (Int32.ofNat i))] [(.int d), (.int (cs.getD i 0))])) tg → Steps pP.tables eE below (T0.setTop (mkF mM 3 #[.val (.ref t), .val (.int d), .val (.int 0), .val (.int (Int32.ofNat n)), .val (.int (Int32.ofNat i))] [])) tg := fun tg kg => (by
      refine XS.iload X0.here hx rfl (hb hby dj52_48_3) rfl ?_
      show Steps _ _ _ (T0.setTop (mkF mM 5 #[.val (.ref t), .val (.int d), .val (.int 0), .val (.int (Int32.ofNat n)), .val (.int (Int32.ofNat i))] [(.int (Int32.ofNat i))])) _
      refine XS.iloadN X0.here hx rfl (hb hby dj52_48_5) rfl ?_
      show Steps _ _ _ (T0.setTop (mkF mM 6 #[.val (.ref t), .val (.int d), .val (.int 0), .val (.int (Int32.ofNat n)), .val (.int (Int32.ofNat i))] [(.int (Int32.ofNat n)), (.int (Int32.ofNat i))])) _
      refine XS.icmpNo X0.here hx rfl (hb hby dj52_48_6) rfl (tlt (own_lt (by omega) (by omega))).2.1 ?_
      show Steps _ _ _ (T0.setTop (mkF mM 9 #[.val (.ref t), .val (.int d), .val (.int 0), .val (.int (Int32.ofNat n)), .val (.int (Int32.ofNat i))] [])) _
      refine XS.aloadN X0.here hx rfl (hb hby dj52_48_9) rfl rfl ?_
      show Steps _ _ _ (T0.setTop (mkF mM 10 #[.val (.ref t), .val (.int d), .val (.int 0), .val (.int (Int32.ofNat n)), .val (.int (Int32.ofNat i))] [(.ref t)])) _
      refine XS.iload X0.here hx rfl (hb hby dj52_48_10) rfl ?_
      show Steps _ _ _ (T0.setTop (mkF mM 12 #[.val (.ref t), .val (.int d), .val (.int 0), .val (.int (Int32.ofNat n)), .val (.int (Int32.ofNat i))] [(.int (Int32.ofNat i)), (.ref t)])) _
      refine st1 _ ?_
      show Steps _ _ _ (T1.setTop (mkF mM 15 #[.val (.ref t), .val (.int d), .val (.int 0), .val (.int (Int32.ofNat n)), .val (.int (Int32.ofNat i))] [(.int (cs.getD i 0))])) _
      refine XS.iloadN X1.here hx rfl (hb hby dj52_48_15) rfl ?_
      exact kg)
    by_cases hc2 : (cs.getD i 0) = d
    · refine ⟨T1, mkF mM 21 #[.val (.ref t), .val (.int d), .val (.int 0), .val (.int (Int32.ofNat n)), .val (.int (Int32.ofNat i))] [(.int (own_ixk cs d i (kq + 1)))], Or.inl ⟨_, rfl⟩, X1, Kq1, fun tg kg => ?_⟩
      rw [show own_ixk cs d i (kq + 1) = Int32.ofNat i from if_pos hc2] at kg
      refine pre3 tg ?_
      refine XS.icmpNo X1.here hx rfl (hb hby dj52_48_16) rfl (teq hc2).2 ?_
      show Steps _ _ _ (T1.setTop (mkF mM 19 #[.val (.ref t), .val (.int d), .val (.int 0), .val (.int (Int32.ofNat n)), .val (.int (Int32.ofNat i))] [])) _
      refine XS.iload X1.here hx rfl (hb hby dj52_48_19) rfl ?_
      exact kg
    · obtain ⟨T4, g4, hg4, X4, e4, st4⟩ := ih (i + 1) X1 Kq1 (by omega)
      refine ⟨T4, g4, (by rw [show own_ixk cs d i (kq + 1) = own_ixk cs d (i + 1) kq from if_neg hc2]; exact hg4), X4, e4, fun tg kg => ?_⟩
      refine pre3 tg ?_
      refine XS.icmpYes X1.here hx rfl (pc0 := 16) (pc' := 22) rfl (hb hby dj52_48_16) rfl (feq hc2).2 (by decide) (by decide) ?_
      show Steps _ _ _ (T1.setTop (mkF mM 22 #[.val (.ref t), .val (.int d), .val (.int 0), .val (.int (Int32.ofNat n)), .val (.int (Int32.ofNat i))] [])) _
      refine XS.iinc X1.here hx rfl (hb hby dj52_48_22) rfl (l' := #[.val (.ref t), .val (.int d), .val (.int 0), .val (.int (Int32.ofNat n)), .val (.int ((Int32.ofNat i) + (1 : Int32)))]) rfl ?_
      show Steps _ _ _ (T1.setTop (mkF mM 25 #[.val (.ref t), .val (.int d), .val (.int 0), .val (.int (Int32.ofNat n)), .val (.int ((Int32.ofNat i) + (1 : Int32)))] [])) _
      refine XS.goto X1.here hx rfl (pc0 := 25) (pc' := 3) rfl (hb hby dj52_48_25) (by decide) (by decide) ?_
      show Steps _ _ _ (T1.setTop (mkF mM 3 #[.val (.ref t), .val (.int d), .val (.int 0), .val (.int (Int32.ofNat n)), .val (.int ((Int32.ofNat i) + (1 : Int32)))] [])) _
      rw [own_inc i]
      exact st4 tg kg
theorem ef_iou (m : MethodId) (x0 : Addr) (x1 : Int32) (x2 : Int32) (x3 : Int32) : entryFrame m #[(.ref x0), (.int x1), (.int x2), (.int x3)] 5 = mkF m 0 #[.val (.ref x0), .val (.int x1), .val (.int x2), .val (.int x3), .unset] [] := by first | (simp [entryFrame, mkF, argsToLocals, Value.category]; done) | rfl
def Q_iou (Z : State) (t : Addr) (k : ClassId) (n : Nat) (cs : List Int32) (d : Int32) (h0 : Heap) (n0 : Nat) (vV : Option Value) (h : Heap) (LL : List Loc) : Prop := vV = some (.int (own_ixk cs d 0 n)) ∧ LL = [] ∧ h = h0
set_option maxRecDepth 65536 in
set_option maxHeartbeats 40000000 in
theorem rm_iou (l : Launch) (Z : State) (a0 : Array Value) (hw : ∀ d ∈ tables_1, d.before a0 Z = true) (ws : List Jvm.Cond) (t : Addr) (k : ClassId) (n : Nat) (cs : List Int32) (d : Int32) (h0 : Heap) (n0 : Nat) (O0 : Old Z n0 h0) (V_t : Arv Z h0 t k .byte (Int32.ofNat (2 * n)) (own_u16 cs) (.int 0)) (hp1 : (cs.length = n ∧ n ≤ 4)) (hp2 : (∀ c ∈ cs, ¬ c < 0 ∧ ¬ (65535 : Int32) < c)) (S__assertionsDisabled : Sta Z Z.heap "java/lang/StringUTF16" "$assertionsDisabled" "Z" (.int 1)) (S_HI_BYTE_SHIFT : Sta Z Z.heap "java/lang/StringUTF16" "HI_BYTE_SHIFT" "I" (.int 0)) (S_LO_BYTE_SHIFT : Sta Z Z.heap "java/lang/StringUTF16" "LO_BYTE_SHIFT" "I" (.int 8)) :
    MetFree l (⟨"java/lang/StringUTF16", "indexOfCharUnsafe", "([BIII)I"⟩ : MethodName) (head1 (Jvm.Cond.code (⟨"java/lang/StringUTF16", "indexOfCharUnsafe", "([BIII)I"⟩ : MethodName) jdk_52_method_48_code 5 (some .int) :: ws) (⟨1, 0, 0, 13⟩ : Room)) (fun aa_ U => aa_ = #[(.ref t), (.int d), (.int 0), (.int (Int32.ofNat n))] ∧ Z.Warmed39 U.vm ∧ U.heap = h0) (fun _ _ _ _ _ => True) (fun _ U o U' => ∃ vV LL, o = .returned vV ∧ Q_iou Z t k n cs d h0 n0 vV U'.heap LL ∧ FrameEnd U o U' LL (⟨1, 0, 0, 13⟩ : Room).cells (⟨1, 0, 0, 13⟩ : Room).slots) := by
  refine MetFree.of_bodySF (plainFor_of_name pn_2) hisR ?_
  intro pP eE sS mM args below meth cC s₁ Bd hml0 hP hK
  obtain ⟨rfl, hZ, hh⟩ := hP
  have hx := Bd.exec
  have hby := Bd.bytes
  have hml : cC.maxLocals = 5 := hml0
  have hown : sS.vm.findClass "java/lang/StringUTF16" = some mM.cls := findClass_of_methodNamed Bd.named
  have hnm := (name_of_methodNamed Bd.named Bd.method).1
  have X0 : Stand pP l eE (⟨1, 0, 0, 13⟩ : Room) sS mM #[(.ref t), (.int d), (.int 0), (.int (Int32.ofNat n))] below meth cC s₁ [] 0 0 := Stand.of_body Bd
  have e0 : s₁.heap = h0 := by rw [← hh, Bd.state]; rfl
  have N0 := Fr.nil n0
  have pre0 : ∀ tg, Steps pP.tables eE below (s₁.setTop (mkF mM 0 #[.val (.ref t), .val (.int d), .val (.int 0), .val (.int (Int32.ofNat n)), .unset] [])) tg → Steps pP.tables eE below (s₁.setTop (entryFrame mM #[(.ref t), (.int d), (.int 0), (.int (Int32.ofNat n))] 5)) tg := fun tg kg => castTop (ef_iou mM t d (0 : Int32) (Int32.ofNat n)) kg
  obtain ⟨T1, g1, hg1, X1, e1, st1⟩ := lp_iou t k n cs d hx hZ hw hby hml hown O0 V_t hp1 hp2 S__assertionsDisabled S_HI_BYTE_SHIFT S_LO_BYTE_SHIFT (n) (0) X0 e0 (by omega)
  rcases hg1 with ⟨Lx1, rfl⟩ | ⟨Lx1, rfl⟩
  · obtain ⟨fs, hr, hrun, hended, hW, hsame⟩ := X1.leave (v := some (.int (own_ixk cs d 0 n))) (fun h => by rw [Bd.returns] at h; cases h)
    refine ⟨_, _, pre0 _ ?_, hrun, hended, _, _, rfl, ?_, ⟨_, rfl⟩, hW, hsame.mono (by decide) (by decide)⟩
    · refine XS.iloadN X0.here hx rfl (hb hby dj52_48_0) rfl ?_
      show Steps _ _ _ (s₁.setTop (mkF mM 1 #[.val (.ref t), .val (.int d), .val (.int 0), .val (.int (Int32.ofNat n)), .unset] [(.int 0)])) _
      refine XS.istore X0.here hx rfl (hb hby dj52_48_1) rfl (l' := #[.val (.ref t), .val (.int d), .val (.int 0), .val (.int (Int32.ofNat n)), .val (.int 0)]) rfl ?_
      show Steps _ _ _ (s₁.setTop (mkF mM 3 #[.val (.ref t), .val (.int d), .val (.int 0), .val (.int (Int32.ofNat n)), .val (.int 0)] [])) _
      refine st1 _ ?_
      show Steps _ _ _ (T1.setTop (mkF mM 21 Lx1 [(.int (own_ixk cs d 0 n))])) _
      exact retI X1 hx Bd.returns (hb hby dj52_48_21) hr
    · show Q_iou Z t k n cs d h0 n0 _ T1.heap _
      rw [e1]
      exact ⟨rfl, rfl, rfl⟩
  · obtain ⟨fs, hr, hrun, hended, hW, hsame⟩ := X1.leave (v := some (.int (own_ixk cs d 0 n))) (fun h => by rw [Bd.returns] at h; cases h)
    refine ⟨_, _, pre0 _ ?_, hrun, hended, _, _, rfl, ?_, ⟨_, rfl⟩, hW, hsame.mono (by decide) (by decide)⟩
    · refine XS.iloadN X0.here hx rfl (hb hby dj52_48_0) rfl ?_
      show Steps _ _ _ (s₁.setTop (mkF mM 1 #[.val (.ref t), .val (.int d), .val (.int 0), .val (.int (Int32.ofNat n)), .unset] [(.int 0)])) _
      refine XS.istore X0.here hx rfl (hb hby dj52_48_1) rfl (l' := #[.val (.ref t), .val (.int d), .val (.int 0), .val (.int (Int32.ofNat n)), .val (.int 0)]) rfl ?_
      show Steps _ _ _ (s₁.setTop (mkF mM 3 #[.val (.ref t), .val (.int d), .val (.int 0), .val (.int (Int32.ofNat n)), .val (.int 0)] [])) _
      refine st1 _ ?_
      show Steps _ _ _ (T1.setTop (mkF mM 29 Lx1 [(.int (own_ixk cs d 0 n))])) _
      exact retI X1 hx Bd.returns (hb hby dj52_48_29) hr
    · show Q_iou Z t k n cs d h0 n0 _ T1.heap _
      rw [e1]
      exact ⟨rfl, rfl, rfl⟩
theorem ef_cfn (m : MethodId) (x0 : Int32) (x1 : Int32) (x2 : Int32) : entryFrame m #[(.int x0), (.int x1), (.int x2), .null] 4 = mkF m 0 #[.val (.int x0), .val (.int x1), .val (.int x2), .val .null] [] := by first | (simp [entryFrame, mkF, argsToLocals, Value.category]; done) | rfl
def Q_cfn (Z : State) (n : Nat) (h0 : Heap) (n0 : Nat) (vV : Option Value) (h : Heap) (LL : List Loc) : Prop := vV = some (.int 0) ∧ LL = [] ∧ h = h0
set_option maxRecDepth 65536 in
set_option maxHeartbeats 40000000 in
theorem rm_cfn (l : Launch) (Z : State) (a0 : Array Value) (hw : ∀ d ∈ tables_1, d.before a0 Z = true) (ws : List Jvm.Cond) (n : Nat) (h0 : Heap) (n0 : Nat) (O0 : Old Z n0 h0) (hp0 : (n ≤ 4)) :
    MetFree l (⟨"jdk/internal/util/Preconditions", "checkFromToIndex", "(IIILjava/util/function/BiFunction;)I"⟩ : MethodName) (head1 (Jvm.Cond.code (⟨"jdk/internal/util/Preconditions", "checkFromToIndex", "(IIILjava/util/function/BiFunction;)I"⟩ : MethodName) jdk_41_method_12_code 4 (some .int) :: ws) (⟨0, 0, 0, 0⟩ : Room)) (fun aa_ U => aa_ = #[(.int 0), (.int (Int32.ofNat n)), (.int (Int32.ofNat n)), .null] ∧ Z.Warmed39 U.vm ∧ U.heap = h0) (fun _ _ _ _ _ => True) (fun _ U o U' => ∃ vV LL, o = .returned vV ∧ Q_cfn Z n h0 n0 vV U'.heap LL ∧ FrameEnd U o U' LL (⟨0, 0, 0, 0⟩ : Room).cells (⟨0, 0, 0, 0⟩ : Room).slots) := by
  refine MetFree.of_bodySF (plainFor_of_name pn_3) hisR ?_
  intro pP eE sS mM args below meth cC s₁ Bd hml0 hP hK
  obtain ⟨rfl, hZ, hh⟩ := hP
  have hx := Bd.exec
  have hby := Bd.bytes
  have hml : cC.maxLocals = 4 := hml0
  have hown : sS.vm.findClass "jdk/internal/util/Preconditions" = some mM.cls := findClass_of_methodNamed Bd.named
  have hnm := (name_of_methodNamed Bd.named Bd.method).1
  have X0 : Stand pP l eE (⟨0, 0, 0, 0⟩ : Room) sS mM #[(.int 0), (.int (Int32.ofNat n)), (.int (Int32.ofNat n)), .null] below meth cC s₁ [] 0 0 := Stand.of_body Bd
  have e0 : s₁.heap = h0 := by rw [← hh, Bd.state]; rfl
  have N0 := Fr.nil n0
  have pre0 : ∀ tg, Steps pP.tables eE below (s₁.setTop (mkF mM 0 #[.val (.int 0), .val (.int (Int32.ofNat n)), .val (.int (Int32.ofNat n)), .val .null] [])) tg → Steps pP.tables eE below (s₁.setTop (entryFrame mM #[(.int 0), (.int (Int32.ofNat n)), (.int (Int32.ofNat n)), .null] 4)) tg := fun tg kg => castTop (ef_cfn mM (0 : Int32) (Int32.ofNat n) (Int32.ofNat n)) kg
  obtain ⟨fs, hr, hrun, hended, hW, hsame⟩ := X0.leave (v := some (.int 0)) (fun h => by rw [Bd.returns] at h; cases h)
  refine ⟨_, _, pre0 _ ?_, hrun, hended, _, _, rfl, ?_, ⟨_, rfl⟩, hW, hsame.mono (by decide) (by decide)⟩
  · refine XS.iloadN X0.here hx rfl (hb hby dj41_12_0) rfl ?_
    show Steps _ _ _ (s₁.setTop (mkF mM 1 #[.val (.int 0), .val (.int (Int32.ofNat n)), .val (.int (Int32.ofNat n)), .val .null] [(.int 0)])) _
    refine XS.ifNo X0.here hx rfl (hb hby dj41_12_1) rfl ((if0 _ _).trans (flt (by decide)).1) ?_
    show Steps _ _ _ (s₁.setTop (mkF mM 4 #[.val (.int 0), .val (.int (Int32.ofNat n)), .val (.int (Int32.ofNat n)), .val .null] [])) _
    refine XS.iloadN X0.here hx rfl (hb hby dj41_12_4) rfl ?_
    show Steps _ _ _ (s₁.setTop (mkF mM 5 #[.val (.int 0), .val (.int (Int32.ofNat n)), .val (.int (Int32.ofNat n)), .val .null] [(.int 0)])) _
    refine XS.iloadN X0.here hx rfl (hb hby dj41_12_5) rfl ?_
    show Steps _ _ _ (s₁.setTop (mkF mM 6 #[.val (.int 0), .val (.int (Int32.ofNat n)), .val (.int (Int32.ofNat n)), .val .null] [(.int (Int32.ofNat n)), (.int 0)])) _
    refine XS.icmpNo X0.here hx rfl (hb hby dj41_12_6) rfl (flt (own_nneg _ (by omega))).2.2.1 ?_
    show Steps _ _ _ (s₁.setTop (mkF mM 9 #[.val (.int 0), .val (.int (Int32.ofNat n)), .val (.int (Int32.ofNat n)), .val .null] [])) _
    refine XS.iloadN X0.here hx rfl (hb hby dj41_12_9) rfl ?_
    show Steps _ _ _ (s₁.setTop (mkF mM 10 #[.val (.int 0), .val (.int (Int32.ofNat n)), .val (.int (Int32.ofNat n)), .val .null] [(.int (Int32.ofNat n))])) _
    refine XS.iloadN X0.here hx rfl (hb hby dj41_12_10) rfl ?_
    show Steps _ _ _ (s₁.setTop (mkF mM 11 #[.val (.int 0), .val (.int (Int32.ofNat n)), .val (.int (Int32.ofNat n)), .val .null] [(.int (Int32.ofNat n)), (.int (Int32.ofNat n))])) _
    refine XS.icmpYes X0.here hx rfl (pc0 := 11) (pc' := 22) rfl (hb hby dj41_12_11) rfl (flt (own_nlt (by omega) (by omega))).2.2.2 (by decide) (by decide) ?_
    show Steps _ _ _ (s₁.setTop (mkF mM 22 #[.val (.int 0), .val (.int (Int32.ofNat n)), .val (.int (Int32.ofNat n)), .val .null] [])) _
    refine XS.iloadN X0.here hx rfl (hb hby dj41_12_22) rfl ?_
    show Steps _ _ _ (s₁.setTop (mkF mM 23 #[.val (.int 0), .val (.int (Int32.ofNat n)), .val (.int (Int32.ofNat n)), .val .null] [(.int 0)])) _
    exact retI X0 hx Bd.returns (hb hby dj41_12_23) hr
  · show Q_cfn Z n h0 n0 _ s₁.heap _
    rw [e0]
    exact ⟨rfl, rfl, rfl⟩
theorem ef_cfr (m : MethodId) (x0 : Int32) (x1 : Int32) (x2 : Int32) (x3 : Addr) : entryFrame m #[(.int x0), (.int x1), (.int x2), (.ref x3)] 4 = mkF m 0 #[.val (.int x0), .val (.int x1), .val (.int x2), .val (.ref x3)] [] := by first | (simp [entryFrame, mkF, argsToLocals, Value.category]; done) | rfl
def Q_cfr (Z : State) (n : Nat) (fa : Addr) (h0 : Heap) (n0 : Nat) (vV : Option Value) (h : Heap) (LL : List Loc) : Prop := vV = some (.int 0) ∧ LL = [] ∧ h = h0
set_option maxRecDepth 65536 in
set_option maxHeartbeats 40000000 in
theorem rm_cfr (l : Launch) (Z : State) (a0 : Array Value) (hw : ∀ d ∈ tables_1, d.before a0 Z = true) (ws : List Jvm.Cond) (n : Nat) (fa : Addr) (h0 : Heap) (n0 : Nat) (O0 : Old Z n0 h0) (hp0 : (n ≤ 4)) :
    MetFree l (⟨"jdk/internal/util/Preconditions", "checkFromToIndex", "(IIILjava/util/function/BiFunction;)I"⟩ : MethodName) (head1 (Jvm.Cond.code (⟨"jdk/internal/util/Preconditions", "checkFromToIndex", "(IIILjava/util/function/BiFunction;)I"⟩ : MethodName) jdk_41_method_12_code 4 (some .int) :: ws) (⟨0, 0, 0, 0⟩ : Room)) (fun aa_ U => aa_ = #[(.int 0), (.int (Int32.ofNat n)), (.int (Int32.ofNat n)), (.ref fa)] ∧ Z.Warmed39 U.vm ∧ U.heap = h0) (fun _ _ _ _ _ => True) (fun _ U o U' => ∃ vV LL, o = .returned vV ∧ Q_cfr Z n fa h0 n0 vV U'.heap LL ∧ FrameEnd U o U' LL (⟨0, 0, 0, 0⟩ : Room).cells (⟨0, 0, 0, 0⟩ : Room).slots) := by
  refine MetFree.of_bodySF (plainFor_of_name pn_3) hisR ?_
  intro pP eE sS mM args below meth cC s₁ Bd hml0 hP hK
  obtain ⟨rfl, hZ, hh⟩ := hP
  have hx := Bd.exec
  have hby := Bd.bytes
  have hml : cC.maxLocals = 4 := hml0
  have hown : sS.vm.findClass "jdk/internal/util/Preconditions" = some mM.cls := findClass_of_methodNamed Bd.named
  have hnm := (name_of_methodNamed Bd.named Bd.method).1
  have X0 : Stand pP l eE (⟨0, 0, 0, 0⟩ : Room) sS mM #[(.int 0), (.int (Int32.ofNat n)), (.int (Int32.ofNat n)), (.ref fa)] below meth cC s₁ [] 0 0 := Stand.of_body Bd
  have e0 : s₁.heap = h0 := by rw [← hh, Bd.state]; rfl
  have N0 := Fr.nil n0
  have pre0 : ∀ tg, Steps pP.tables eE below (s₁.setTop (mkF mM 0 #[.val (.int 0), .val (.int (Int32.ofNat n)), .val (.int (Int32.ofNat n)), .val (.ref fa)] [])) tg → Steps pP.tables eE below (s₁.setTop (entryFrame mM #[(.int 0), (.int (Int32.ofNat n)), (.int (Int32.ofNat n)), (.ref fa)] 4)) tg := fun tg kg => castTop (ef_cfr mM (0 : Int32) (Int32.ofNat n) (Int32.ofNat n) fa) kg
  obtain ⟨fs, hr, hrun, hended, hW, hsame⟩ := X0.leave (v := some (.int 0)) (fun h => by rw [Bd.returns] at h; cases h)
  refine ⟨_, _, pre0 _ ?_, hrun, hended, _, _, rfl, ?_, ⟨_, rfl⟩, hW, hsame.mono (by decide) (by decide)⟩
  · refine XS.iloadN X0.here hx rfl (hb hby dj41_12_0) rfl ?_
    show Steps _ _ _ (s₁.setTop (mkF mM 1 #[.val (.int 0), .val (.int (Int32.ofNat n)), .val (.int (Int32.ofNat n)), .val (.ref fa)] [(.int 0)])) _
    refine XS.ifNo X0.here hx rfl (hb hby dj41_12_1) rfl ((if0 _ _).trans (flt (by decide)).1) ?_
    show Steps _ _ _ (s₁.setTop (mkF mM 4 #[.val (.int 0), .val (.int (Int32.ofNat n)), .val (.int (Int32.ofNat n)), .val (.ref fa)] [])) _
    refine XS.iloadN X0.here hx rfl (hb hby dj41_12_4) rfl ?_
    show Steps _ _ _ (s₁.setTop (mkF mM 5 #[.val (.int 0), .val (.int (Int32.ofNat n)), .val (.int (Int32.ofNat n)), .val (.ref fa)] [(.int 0)])) _
    refine XS.iloadN X0.here hx rfl (hb hby dj41_12_5) rfl ?_
    show Steps _ _ _ (s₁.setTop (mkF mM 6 #[.val (.int 0), .val (.int (Int32.ofNat n)), .val (.int (Int32.ofNat n)), .val (.ref fa)] [(.int (Int32.ofNat n)), (.int 0)])) _
    refine XS.icmpNo X0.here hx rfl (hb hby dj41_12_6) rfl (flt (own_nneg _ (by omega))).2.2.1 ?_
    show Steps _ _ _ (s₁.setTop (mkF mM 9 #[.val (.int 0), .val (.int (Int32.ofNat n)), .val (.int (Int32.ofNat n)), .val (.ref fa)] [])) _
    refine XS.iloadN X0.here hx rfl (hb hby dj41_12_9) rfl ?_
    show Steps _ _ _ (s₁.setTop (mkF mM 10 #[.val (.int 0), .val (.int (Int32.ofNat n)), .val (.int (Int32.ofNat n)), .val (.ref fa)] [(.int (Int32.ofNat n))])) _
    refine XS.iloadN X0.here hx rfl (hb hby dj41_12_10) rfl ?_
    show Steps _ _ _ (s₁.setTop (mkF mM 11 #[.val (.int 0), .val (.int (Int32.ofNat n)), .val (.int (Int32.ofNat n)), .val (.ref fa)] [(.int (Int32.ofNat n)), (.int (Int32.ofNat n))])) _
    refine XS.icmpYes X0.here hx rfl (pc0 := 11) (pc' := 22) rfl (hb hby dj41_12_11) rfl (flt (own_nlt (by omega) (by omega))).2.2.2 (by decide) (by decide) ?_
    show Steps _ _ _ (s₁.setTop (mkF mM 22 #[.val (.int 0), .val (.int (Int32.ofNat n)), .val (.int (Int32.ofNat n)), .val (.ref fa)] [])) _
    refine XS.iloadN X0.here hx rfl (hb hby dj41_12_22) rfl ?_
    show Steps _ _ _ (s₁.setTop (mkF mM 23 #[.val (.int 0), .val (.int (Int32.ofNat n)), .val (.int (Int32.ofNat n)), .val (.ref fa)] [(.int 0)])) _
    exact retI X0 hx Bd.returns (hb hby dj41_12_23) hr
  · show Q_cfr Z n fa h0 n0 _ s₁.heap _
    rw [e0]
    exact ⟨rfl, rfl, rfl⟩
theorem ef_cbe (m : MethodId) (x0 : Int32) (x1 : Int32) (x2 : Int32) : entryFrame m #[(.int x0), (.int x1), (.int x2)] 3 = mkF m 0 #[.val (.int x0), .val (.int x1), .val (.int x2)] [] := by first | (simp [entryFrame, mkF, argsToLocals, Value.category]; done) | rfl
def Q_cbe (Z : State) (n : Nat) (fm : Value) (h0 : Heap) (n0 : Nat) (vV : Option Value) (h : Heap) (LL : List Loc) : Prop := vV = none ∧ LL = [] ∧ h = h0
set_option maxRecDepth 65536 in
set_option maxHeartbeats 40000000 in
theorem rm_cbe (l : Launch) (Z : State) (a0 : Array Value) (hw : ∀ d ∈ tables_1, d.before a0 Z = true) (ws : List Jvm.Cond) (n : Nat) (fm : Value) (h0 : Heap) (n0 : Nat) (O0 : Old Z n0 h0) (hp0 : (n ≤ 4)) (S_SIOOBE_FORMATTER : Sta Z Z.heap "jdk/internal/util/Preconditions" "SIOOBE_FORMATTER" "Ljava/util/function/BiFunction;" fm) (hp2 : (fm.isRef = true)) :
    MetFree l (⟨"java/lang/String", "checkBoundsBeginEnd", "(III)V"⟩ : MethodName) (head1 (Jvm.Cond.code (⟨"java/lang/String", "checkBoundsBeginEnd", "(III)V"⟩ : MethodName) jdk_42_method_158_code 3 none :: ws) (⟨1, 0, 0, 15⟩ : Room)) (fun aa_ U => aa_ = #[(.int 0), (.int (Int32.ofNat n)), (.int (Int32.ofNat n))] ∧ Z.Warmed39 U.vm ∧ U.heap = h0) (fun _ _ _ _ _ => True) (fun _ U o U' => ∃ vV LL, o = .returned vV ∧ Q_cbe Z n fm h0 n0 vV U'.heap LL ∧ FrameEnd U o U' LL (⟨1, 0, 0, 15⟩ : Room).cells (⟨1, 0, 0, 15⟩ : Room).slots) := by
  refine MetFree.of_bodySF (plainFor_of_name pn_1) hisR ?_
  intro pP eE sS mM args below meth cC s₁ Bd hml0 hP hK
  obtain ⟨rfl, hZ, hh⟩ := hP
  have hx := Bd.exec
  have hby := Bd.bytes
  have hml : cC.maxLocals = 3 := hml0
  have hown : sS.vm.findClass "java/lang/String" = some mM.cls := findClass_of_methodNamed Bd.named
  have hnm := (name_of_methodNamed Bd.named Bd.method).1
  have X0 : Stand pP l eE (⟨1, 0, 0, 15⟩ : Room) sS mM #[(.int 0), (.int (Int32.ofNat n)), (.int (Int32.ofNat n))] below meth cC s₁ [] 0 0 := Stand.of_body Bd
  have e0 : s₁.heap = h0 := by rw [← hh, Bd.state]; rfl
  have N0 := Fr.nil n0
  have pre0 : ∀ tg, Steps pP.tables eE below (s₁.setTop (mkF mM 0 #[.val (.int 0), .val (.int (Int32.ofNat n)), .val (.int (Int32.ofNat n))] [])) tg → Steps pP.tables eE below (s₁.setTop (entryFrame mM #[(.int 0), (.int (Int32.ofNat n)), (.int (Int32.ofNat n))] 3)) tg := fun tg kg => castTop (ef_cbe mM (0 : Int32) (Int32.ofNat n) (Int32.ofNat n)) kg
  have pre1 : ∀ tg, Steps pP.tables eE below (s₁.setTop (mkF mM 3 #[.val (.int 0), .val (.int (Int32.ofNat n)), .val (.int (Int32.ofNat n))] [(.int (Int32.ofNat n)), (.int (Int32.ofNat n)), (.int 0)])) tg → Steps pP.tables eE below (s₁.setTop (entryFrame mM #[(.int 0), (.int (Int32.ofNat n)), (.int (Int32.ofNat n))] 3)) tg := fun tg kg => pre0 tg (by
    refine XS.iloadN X0.here hx rfl (hb hby dj42_158_0) rfl ?_
    show Steps _ _ _ (s₁.setTop (mkF mM 1 #[.val (.int 0), .val (.int (Int32.ofNat n)), .val (.int (Int32.ofNat n))] [(.int 0)])) _
    refine XS.iloadN X0.here hx rfl (hb hby dj42_158_1) rfl ?_
    show Steps _ _ _ (s₁.setTop (mkF mM 2 #[.val (.int 0), .val (.int (Int32.ofNat n)), .val (.int (Int32.ofNat n))] [(.int (Int32.ofNat n)), (.int 0)])) _
    refine XS.iloadN X0.here hx rfl (hb hby dj42_158_2) rfl ?_
    exact kg)
  rcases ref_cases hp2 with hfm | ⟨fa, hfm⟩
  · have Sfm : Sta Z Z.heap "jdk/internal/util/Preconditions" "SIOOBE_FORMATTER" "Ljava/util/function/BiFunction;" .null := hfm ▸ S_SIOOBE_FORMATTER
    obtain ⟨T2, X2, e2, st2⟩ := getS2 X0 hx hZ hown (host := "") (Or.inl (w_125 hw)) Via.refl e0 (Sta.ext (O0).2 Sfm) (g := (mkF mM 3 #[.val (.int 0), .val (.int (Int32.ofNat n)), .val (.int (Int32.ofNat n))] [(.int (Int32.ofNat n)), (.int (Int32.ofNat n)), (.int 0)])) rfl (hb hby dj42_158_3)
    obtain ⟨_, _, ⟨T3, L3, k3, n3⟩, -, X3, ⟨Lc3, hQ3, l3, y3, z3⟩, st3⟩ := Jvm.LawKit.callS X2 hx (y := (⟨"jdk/internal/util/Preconditions", "checkFromToIndex", "(IIILjava/util/function/BiFunction;)I"⟩ : MethodName)) hown (mvT hZ (w_127 hw)) (mvT hZ (w_128 hw)) (mvT hZ (w_126 hw)) (mvT hZ (w_129 hw)) (by decide) (backOf (W := 0) (rm_cfn l Z a0 hw [] n h0 n0 O0 (hp0 : n ≤ 4)) hZ (w_129 hw) (w_126 hw) (by decide) (by decide)) (g := (mkF mM 6 #[.val (.int 0), .val (.int (Int32.ofNat n)), .val (.int (Int32.ofNat n))] [.null, (.int (Int32.ofNat n)), (.int (Int32.ofNat n)), (.int 0)])) rfl (by rw [hml]; rfl) (argsL := [(.int 0), (.int (Int32.ofNat n)), (.int (Int32.ofNat n)), .null]) (rest := []) (lenOf pd_2 rfl) rfl (by show 2 * 0 + _ ≤ _; exact Nat.le_of_eq rfl) (hb hby dj42_158_6) (fun _ _ => ⟨rfl, e2, (by decide : 0 + 0 ≤ _), (by decide : 0 + 0 ≤ _)⟩)
    dsimp only [Pt.U, Pt.locs, Pt.cells, Pt.slots] at X3 l3 y3 z3 st3 hQ3
    subst l3 y3 z3
    obtain ⟨rfl, rfl, Kq3⟩ := hQ3
    try rw [List.append_nil] at X3
    obtain ⟨fs, hr, hrun, hended, hW, hsame⟩ := X3.leave (v := none) (fun _ => rfl)
    refine ⟨_, _, pre1 _ ?_, hrun, hended, _, _, rfl, ?_, ⟨_, rfl⟩, hW, hsame.mono (by decide) (by decide)⟩
    · refine st2 _ ?_
      show Steps _ _ _ (T2.setTop (mkF mM 6 #[.val (.int 0), .val (.int (Int32.ofNat n)), .val (.int (Int32.ofNat n))] [.null, (.int (Int32.ofNat n)), (.int (Int32.ofNat n)), (.int 0)])) _
      refine st3 _ ?_
      show Steps _ _ _ (T3.setTop (mkF mM 9 #[.val (.int 0), .val (.int (Int32.ofNat n)), .val (.int (Int32.ofNat n))] [(.int 0)])) _
      refine XS.pop X3.here hx rfl (hb hby dj42_158_9) rfl rfl ?_
      show Steps _ _ _ (T3.setTop (mkF mM 10 #[.val (.int 0), .val (.int (Int32.ofNat n)), .val (.int (Int32.ofNat n))] [])) _
      exact X3.returnOut hx Bd.returns (hb hby dj42_158_10) hr
    · show Q_cbe Z n fm h0 n0 _ T3.heap _
      rw [Kq3]
      exact ⟨rfl, rfl, rfl⟩
  · have Sfm : Sta Z Z.heap "jdk/internal/util/Preconditions" "SIOOBE_FORMATTER" "Ljava/util/function/BiFunction;" (.ref fa) := hfm ▸ S_SIOOBE_FORMATTER
    obtain ⟨T5, X5, e5, st5⟩ := getS2 X0 hx hZ hown (host := "") (Or.inl (w_125 hw)) Via.refl e0 (Sta.ext (O0).2 Sfm) (g := (mkF mM 3 #[.val (.int 0), .val (.int (Int32.ofNat n)), .val (.int (Int32.ofNat n))] [(.int (Int32.ofNat n)), (.int (Int32.ofNat n)), (.int 0)])) rfl (hb hby dj42_158_3)
    obtain ⟨_, _, ⟨T6, L6, k6, n6⟩, -, X6, ⟨Lc6, hQ6, l6, y6, z6⟩, st6⟩ := Jvm.LawKit.callS X5 hx (y := (⟨"jdk/internal/util/Preconditions", "checkFromToIndex", "(IIILjava/util/function/BiFunction;)I"⟩ : MethodName)) hown (mvT hZ (w_127 hw)) (mvT hZ (w_128 hw)) (mvT hZ (w_126 hw)) (mvT hZ (w_129 hw)) (by decide) (backOf (W := 0) (rm_cfr l Z a0 hw [] n fa h0 n0 O0 (hp0 : n ≤ 4)) hZ (w_129 hw) (w_126 hw) (by decide) (by decide)) (g := (mkF mM 6 #[.val (.int 0), .val (.int (Int32.ofNat n)), .val (.int (Int32.ofNat n))] [(.ref fa), (.int (Int32.ofNat n)), (.int (Int32.ofNat n)), (.int 0)])) rfl (by rw [hml]; rfl) (argsL := [(.int 0), (.int (Int32.ofNat n)), (.int (Int32.ofNat n)), (.ref fa)]) (rest := []) (lenOf pd_2 rfl) rfl (by show 2 * 0 + _ ≤ _; exact Nat.le_of_eq rfl) (hb hby dj42_158_6) (fun _ _ => ⟨rfl, e5, (by decide : 0 + 0 ≤ _), (by decide : 0 + 0 ≤ _)⟩)
    dsimp only [Pt.U, Pt.locs, Pt.cells, Pt.slots] at X6 l6 y6 z6 st6 hQ6
    subst l6 y6 z6
    obtain ⟨rfl, rfl, Kq6⟩ := hQ6
    try rw [List.append_nil] at X6
    obtain ⟨fs, hr, hrun, hended, hW, hsame⟩ := X6.leave (v := none) (fun _ => rfl)
    refine ⟨_, _, pre1 _ ?_, hrun, hended, _, _, rfl, ?_, ⟨_, rfl⟩, hW, hsame.mono (by decide) (by decide)⟩
    · refine st5 _ ?_
      show Steps _ _ _ (T5.setTop (mkF mM 6 #[.val (.int 0), .val (.int (Int32.ofNat n)), .val (.int (Int32.ofNat n))] [(.ref fa), (.int (Int32.ofNat n)), (.int (Int32.ofNat n)), (.int 0)])) _
      refine st6 _ ?_
      show Steps _ _ _ (T6.setTop (mkF mM 9 #[.val (.int 0), .val (.int (Int32.ofNat n)), .val (.int (Int32.ofNat n))] [(.int 0)])) _
      refine XS.pop X6.here hx rfl (hb hby dj42_158_9) rfl rfl ?_
      show Steps _ _ _ (T6.setTop (mkF mM 10 #[.val (.int 0), .val (.int (Int32.ofNat n)), .val (.int (Int32.ofNat n))] [])) _
      exact X6.returnOut hx Bd.returns (hb hby dj42_158_10) hr
    · show Q_cbe Z n fm h0 n0 _ T6.heap _
      rw [Kq6]
      exact ⟨rfl, rfl, rfl⟩
theorem ef_ube (m : MethodId) (x0 : Int32) (x1 : Int32) (x2 : Addr) : entryFrame m #[(.int x0), (.int x1), (.ref x2)] 3 = mkF m 0 #[.val (.int x0), .val (.int x1), .val (.ref x2)] [] := by first | (simp [entryFrame, mkF, argsToLocals, Value.category]; done) | rfl
def Q_ube (Z : State) (t : Addr) (k : ClassId) (n : Nat) (vs : List Value) (fm : Value) (h0 : Heap) (n0 : Nat) (vV : Option Value) (h : Heap) (LL : List Loc) : Prop := vV = none ∧ LL = [] ∧ h = h0
set_option maxRecDepth 65536 in
set_option maxHeartbeats 40000000 in
theorem rm_ube (l : Launch) (Z : State) (a0 : Array Value) (hw : ∀ d ∈ tables_1, d.before a0 Z = true) (ws : List Jvm.Cond) (t : Addr) (k : ClassId) (n : Nat) (vs : List Value) (fm : Value) (h0 : Heap) (n0 : Nat) (O0 : Old Z n0 h0) (V_t : Arv Z h0 t k .byte (Int32.ofNat (2 * n)) vs (.int 0)) (hp1 : (n ≤ 4)) (S_SIOOBE_FORMATTER : Sta Z Z.heap "jdk/internal/util/Preconditions" "SIOOBE_FORMATTER" "Ljava/util/function/BiFunction;" fm) (hp3 : (fm.isRef = true)) :
    MetFree l (⟨"java/lang/StringUTF16", "checkBoundsBeginEnd", "(II[B)V"⟩ : MethodName) (head1 (Jvm.Cond.code (⟨"java/lang/StringUTF16", "checkBoundsBeginEnd", "(II[B)V"⟩ : MethodName) jdk_52_method_93_code 3 none :: ws) (⟨2, 0, 0, 29⟩ : Room)) (fun aa_ U => aa_ = #[(.int 0), (.int (Int32.ofNat n)), (.ref t)] ∧ Z.Warmed39 U.vm ∧ U.heap = h0) (fun _ _ _ _ _ => True) (fun _ U o U' => ∃ vV LL, o = .returned vV ∧ Q_ube Z t k n vs fm h0 n0 vV U'.heap LL ∧ FrameEnd U o U' LL (⟨2, 0, 0, 29⟩ : Room).cells (⟨2, 0, 0, 29⟩ : Room).slots) := by
  refine MetFree.of_bodySF (plainFor_of_name pn_2) hisR ?_
  intro pP eE sS mM args below meth cC s₁ Bd hml0 hP hK
  obtain ⟨rfl, hZ, hh⟩ := hP
  have hx := Bd.exec
  have hby := Bd.bytes
  have hml : cC.maxLocals = 3 := hml0
  have hown : sS.vm.findClass "java/lang/StringUTF16" = some mM.cls := findClass_of_methodNamed Bd.named
  have hnm := (name_of_methodNamed Bd.named Bd.method).1
  have X0 : Stand pP l eE (⟨2, 0, 0, 29⟩ : Room) sS mM #[(.int 0), (.int (Int32.ofNat n)), (.ref t)] below meth cC s₁ [] 0 0 := Stand.of_body Bd
  have e0 : s₁.heap = h0 := by rw [← hh, Bd.state]; rfl
  have N0 := Fr.nil n0
  have pre0 : ∀ tg, Steps pP.tables eE below (s₁.setTop (mkF mM 0 #[.val (.int 0), .val (.int (Int32.ofNat n)), .val (.ref t)] [])) tg → Steps pP.tables eE below (s₁.setTop (entryFrame mM #[(.int 0), (.int (Int32.ofNat n)), (.ref t)] 3)) tg := fun tg kg => castTop (ef_ube mM (0 : Int32) (Int32.ofNat n) t) kg
  obtain ⟨_, _, ⟨T1, L1, k1, n1⟩, -, X1, ⟨Lc1, hQ1, l1, y1, z1⟩, st1⟩ := Jvm.LawKit.callS X0 hx (y := (⟨"java/lang/StringUTF16", "length", "([B)I"⟩ : MethodName)) hown (mvT hZ (w_119 hw)) (mvT hZ (w_120 hw)) (mvT hZ (w_74 hw)) (mvT hZ (w_121 hw)) (by decide) (backOf (W := 2) (rm_ulen l Z a0 hw [] t k n vs h0 n0 O0 V_t (by omega : n ≤ 4000)) hZ (w_121 hw) (w_74 hw) (by decide) (by decide)) (g := (mkF mM 3 #[.val (.int 0), .val (.int (Int32.ofNat n)), .val (.ref t)] [(.ref t), (.int (Int32.ofNat n)), (.int 0)])) rfl (by rw [hml]; rfl) (argsL := [(.ref t)]) (rest := [(.int (Int32.ofNat n)), (.int 0)]) (lenOf pd_3 rfl) rfl (by show 2 * 0 + _ ≤ _; exact Nat.le_of_eq rfl) (hb hby dj52_93_3) (fun _ _ => ⟨rfl, e0, (by decide : 0 + 0 ≤ _), (by decide : 0 + 0 ≤ _)⟩)
  dsimp only [Pt.U, Pt.locs, Pt.cells, Pt.slots] at X1 l1 y1 z1 st1 hQ1
  subst l1 y1 z1
  obtain ⟨rfl, rfl, Kq1⟩ := hQ1
  try rw [List.append_nil] at X1
  obtain ⟨_, _, ⟨T2, L2, k2, n2⟩, -, X2, ⟨Lc2, hQ2, l2, y2, z2⟩, st2⟩ := Jvm.LawKit.callS X1 hx (y := (⟨"java/lang/String", "checkBoundsBeginEnd", "(III)V"⟩ : MethodName)) hown (mvT hZ (w_122 hw)) (mvT hZ (w_123 hw)) (mvT hZ (w_9 hw)) (mvT hZ (w_124 hw)) (by decide) (backOf (W := 0) (rm_cbe l Z a0 hw [] n fm h0 n0 O0 (hp1 : n ≤ 4) S_SIOOBE_FORMATTER hp3) hZ (w_124 hw) (w_9 hw) (by decide) (by decide)) (g := (mkF mM 6 #[.val (.int 0), .val (.int (Int32.ofNat n)), .val (.ref t)] [(.int (Int32.ofNat n)), (.int (Int32.ofNat n)), (.int 0)])) rfl (by rw [hml]; rfl) (argsL := [(.int 0), (.int (Int32.ofNat n)), (.int (Int32.ofNat n))]) (rest := []) (lenOf pd_4 rfl) rfl (by show 2 * 0 + _ ≤ _; exact Nat.le_of_eq rfl) (hb hby dj52_93_6) (fun _ _ => ⟨rfl, Kq1, (by decide : 0 + 0 ≤ _), (by decide : 0 + 0 ≤ _)⟩)
  dsimp only [Pt.U, Pt.locs, Pt.cells, Pt.slots] at X2 l2 y2 z2 st2 hQ2
  subst l2 y2 z2
  obtain ⟨rfl, rfl, Kq2⟩ := hQ2
  try rw [List.append_nil] at X2
  obtain ⟨fs, hr, hrun, hended, hW, hsame⟩ := X2.leave (v := none) (fun _ => rfl)
  refine ⟨_, _, pre0 _ ?_, hrun, hended, _, _, rfl, ?_, ⟨_, rfl⟩, hW, hsame.mono (by decide) (by decide)⟩
  · refine XS.iloadN X0.here hx rfl (hb hby dj52_93_0) rfl ?_
    show Steps _ _ _ (s₁.setTop (mkF mM 1 #[.val (.int 0), .val (.int (Int32.ofNat n)), .val (.ref t)] [(.int 0)])) _
    refine XS.iloadN X0.here hx rfl (hb hby dj52_93_1) rfl ?_
    show Steps _ _ _ (s₁.setTop (mkF mM 2 #[.val (.int 0), .val (.int (Int32.ofNat n)), .val (.ref t)] [(.int (Int32.ofNat n)), (.int 0)])) _
    refine XS.aloadN X0.here hx rfl (hb hby dj52_93_2) rfl rfl ?_
    show Steps _ _ _ (s₁.setTop (mkF mM 3 #[.val (.int 0), .val (.int (Int32.ofNat n)), .val (.ref t)] [(.ref t), (.int (Int32.ofNat n)), (.int 0)])) _
    refine st1 _ ?_
    show Steps _ _ _ (T1.setTop (mkF mM 6 #[.val (.int 0), .val (.int (Int32.ofNat n)), .val (.ref t)] [(.int (Int32.ofNat n)), (.int (Int32.ofNat n)), (.int 0)])) _
    refine st2 _ ?_
    show Steps _ _ _ (T2.setTop (mkF mM 9 #[.val (.int 0), .val (.int (Int32.ofNat n)), .val (.ref t)] [])) _
    exact X2.returnOut hx Bd.returns (hb hby dj52_93_9) hr
  · show Q_ube Z t k n vs fm h0 n0 _ T2.heap _
    rw [Kq2]
    exact ⟨rfl, rfl, rfl⟩
theorem ef_uioc (m : MethodId) (x0 : Addr) (x1 : Int32) (x2 : Int32) (x3 : Int32) : entryFrame m #[(.ref x0), (.int x1), (.int x2), (.int x3)] 4 = mkF m 0 #[.val (.ref x0), .val (.int x1), .val (.int x2), .val (.int x3)] [] := by first | (simp [entryFrame, mkF, argsToLocals, Value.category]; done) | rfl
def Q_uioc (Z : State) (t : Addr) (k : ClassId) (n : Nat) (cs : List Int32) (d : Int32) (fm : Value) (h0 : Heap) (n0 : Nat) (vV : Option Value) (h : Heap) (LL : List Loc) : Prop := vV = some (.int (own_ixk cs d 0 n)) ∧ LL = [] ∧ h = h0
set_option maxRecDepth 65536 in
set_option maxHeartbeats 40000000 in
theorem rm_uioc (l : Launch) (Z : State) (a0 : Array Value) (hw : ∀ d ∈ tables_1, d.before a0 Z = true) (ws : List Jvm.Cond) (t : Addr) (k : ClassId) (n : Nat) (cs : List Int32) (d : Int32) (fm : Value) (h0 : Heap) (n0 : Nat) (O0 : Old Z n0 h0) (V_t : Arv Z h0 t k .byte (Int32.ofNat (2 * n)) (own_u16 cs) (.int 0)) (hp1 : (cs.length = n ∧ n ≤ 4)) (hp2 : (∀ c ∈ cs, ¬ c < 0 ∧ ¬ (65535 : Int32) < c)) (S__assertionsDisabled : Sta Z Z.heap "java/lang/StringUTF16" "$assertionsDisabled" "Z" (.int 1)) (S_HI_BYTE_SHIFT : Sta Z Z.heap "java/lang/StringUTF16" "HI_BYTE_SHIFT" "I" (.int 0)) (S_LO_BYTE_SHIFT : Sta Z Z.heap "java/lang/StringUTF16" "LO_BYTE_SHIFT" "I" (.int 8)) (S_SIOOBE_FORMATTER : Sta Z Z.heap "jdk/internal/util/Preconditions" "SIOOBE_FORMATTER" "Ljava/util/function/BiFunction;" fm) (hp7 : (fm.isRef = true)) :
    MetFree l (⟨"java/lang/StringUTF16", "indexOfChar", "([BIII)I"⟩ : MethodName) (head1 (Jvm.Cond.code (⟨"java/lang/StringUTF16", "indexOfChar", "([BIII)I"⟩ : MethodName) jdk_52_method_47_code 4 (some .int) :: ws) (⟨3, 0, 0, 43⟩ : Room)) (fun aa_ U => aa_ = #[(.ref t), (.int d), (.int 0), (.int (Int32.ofNat n))] ∧ Z.Warmed39 U.vm ∧ U.heap = h0) (fun _ _ _ _ _ => True) (fun _ U o U' => ∃ vV LL, o = .returned vV ∧ Q_uioc Z t k n cs d fm h0 n0 vV U'.heap LL ∧ FrameEnd U o U' LL (⟨3, 0, 0, 43⟩ : Room).cells (⟨3, 0, 0, 43⟩ : Room).slots) := by
  refine MetFree.of_bodySF (plainFor_of_name pn_2) hisR ?_
  intro pP eE sS mM args below meth cC s₁ Bd hml0 hP hK
  obtain ⟨rfl, hZ, hh⟩ := hP
  have hx := Bd.exec
  have hby := Bd.bytes
  have hml : cC.maxLocals = 4 := hml0
  have hown : sS.vm.findClass "java/lang/StringUTF16" = some mM.cls := findClass_of_methodNamed Bd.named
  have hnm := (name_of_methodNamed Bd.named Bd.method).1
  have X0 : Stand pP l eE (⟨3, 0, 0, 43⟩ : Room) sS mM #[(.ref t), (.int d), (.int 0), (.int (Int32.ofNat n))] below meth cC s₁ [] 0 0 := Stand.of_body Bd
  have e0 : s₁.heap = h0 := by rw [← hh, Bd.state]; rfl
  have N0 := Fr.nil n0
  have pre0 : ∀ tg, Steps pP.tables eE below (s₁.setTop (mkF mM 0 #[.val (.ref t), .val (.int d), .val (.int 0), .val (.int (Int32.ofNat n))] [])) tg → Steps pP.tables eE below (s₁.setTop (entryFrame mM #[(.ref t), (.int d), (.int 0), (.int (Int32.ofNat n))] 4)) tg := fun tg kg => castTop (ef_uioc mM t d (0 : Int32) (Int32.ofNat n)) kg
  obtain ⟨_, _, ⟨T1, L1, k1, n1⟩, -, X1, ⟨Lc1, hQ1, l1, y1, z1⟩, st1⟩ := Jvm.LawKit.callS X0 hx (y := (⟨"java/lang/StringUTF16", "checkBoundsBeginEnd", "(II[B)V"⟩ : MethodName)) hown (mvT hZ (w_116 hw)) (mvT hZ (w_117 hw)) (mvT hZ (w_74 hw)) (mvT hZ (w_118 hw)) (by decide) (backOf (W := 0) (rm_ube l Z a0 hw [] t k n (own_u16 cs) fm h0 n0 O0 V_t (by omega : n ≤ 4) S_SIOOBE_FORMATTER hp7) hZ (w_118 hw) (w_74 hw) (by decide) (by decide)) (g := (mkF mM 3 #[.val (.ref t), .val (.int d), .val (.int 0), .val (.int (Int32.ofNat n))] [(.ref t), (.int (Int32.ofNat n)), (.int 0)])) rfl (by rw [hml]; rfl) (argsL := [(.int 0), (.int (Int32.ofNat n)), (.ref t)]) (rest := []) (lenOf pd_5 rfl) rfl (by show 2 * 0 + _ ≤ _; exact Nat.le_of_eq rfl) (hb hby dj52_47_3) (fun _ _ => ⟨rfl, e0, (by decide : 0 + 0 ≤ _), (by decide : 0 + 0 ≤ _)⟩)
  dsimp only [Pt.U, Pt.locs, Pt.cells, Pt.slots] at X1 l1 y1 z1 st1 hQ1
  subst l1 y1 z1
  obtain ⟨rfl, rfl, Kq1⟩ := hQ1
  try rw [List.append_nil] at X1
  obtain ⟨_, _, ⟨T2, L2, k2, n2⟩, -, X2, ⟨Lc2, hQ2, l2, y2, z2⟩, st2⟩ := Jvm.LawKit.callS X1 hx (y := (⟨"java/lang/StringUTF16", "indexOfCharUnsafe", "([BIII)I"⟩ : MethodName)) hown (mvT hZ (w_130 hw)) (mvT hZ (w_131 hw)) (mvT hZ (w_74 hw)) (mvT hZ (w_132 hw)) (by decide) (backOf (W := 0) (rm_iou l Z a0 hw [] t k n cs d h0 n0 O0 V_t (hp1 : cs.length = n ∧ n ≤ 4) (hp2 : ∀ c ∈ cs, ¬ c < 0 ∧ ¬ (65535 : Int32) < c) S__assertionsDisabled S_HI_BYTE_SHIFT S_LO_BYTE_SHIFT) hZ (w_132 hw) (w_74 hw) (by decide) (by decide)) (g := (mkF mM 10 #[.val (.ref t), .val (.int d), .val (.int 0), .val (.int (Int32.ofNat n))] [(.int (Int32.ofNat n)), (.int 0), (.int d), (.ref t)])) rfl (by rw [hml]; rfl) (argsL := [(.ref t), (.int d), (.int 0), (.int (Int32.ofNat n))]) (rest := []) (lenOf pd_6 rfl) rfl (by show 2 * 0 + _ ≤ _; exact Nat.le_of_eq rfl) (hb hby dj52_47_10) (fun _ _ => ⟨rfl, Kq1, (by decide : 0 + 0 ≤ _), (by decide : 0 + 0 ≤ _)⟩)
  dsimp only [Pt.U, Pt.locs, Pt.cells, Pt.slots] at X2 l2 y2 z2 st2 hQ2
  subst l2 y2 z2
  obtain ⟨rfl, rfl, Kq2⟩ := hQ2
  try rw [List.append_nil] at X2
  obtain ⟨fs, hr, hrun, hended, hW, hsame⟩ := X2.leave (v := some (.int (own_ixk cs d 0 n))) (fun h => by rw [Bd.returns] at h; cases h)
  refine ⟨_, _, pre0 _ ?_, hrun, hended, _, _, rfl, ?_, ⟨_, rfl⟩, hW, hsame.mono (by decide) (by decide)⟩
  · refine XS.iloadN X0.here hx rfl (hb hby dj52_47_0) rfl ?_
    show Steps _ _ _ (s₁.setTop (mkF mM 1 #[.val (.ref t), .val (.int d), .val (.int 0), .val (.int (Int32.ofNat n))] [(.int 0)])) _
    refine XS.iloadN X0.here hx rfl (hb hby dj52_47_1) rfl ?_
    show Steps _ _ _ (s₁.setTop (mkF mM 2 #[.val (.ref t), .val (.int d), .val (.int 0), .val (.int (Int32.ofNat n))] [(.int (Int32.ofNat n)), (.int 0)])) _
    refine XS.aloadN X0.here hx rfl (hb hby dj52_47_2) rfl rfl ?_
    show Steps _ _ _ (s₁.setTop (mkF mM 3 #[.val (.ref t), .val (.int d), .val (.int 0), .val (.int (Int32.ofNat n))] [(.ref t), (.int (Int32.ofNat n)), (.int 0)])) _
    refine st1 _ ?_
    show Steps _ _ _ (T1.setTop (mkF mM 6 #[.val (.ref t), .val (.int d), .val (.int 0), .val (.int (Int32.ofNat n))] [])) _
    refine XS.aloadN X1.here hx rfl (hb hby dj52_47_6) rfl rfl ?_
    show Steps _ _ _ (T1.setTop (mkF mM 7 #[.val (.ref t), .val (.int d), .val (.int 0), .val (.int (Int32.ofNat n))] [(.ref t)])) _
    refine XS.iloadN X1.here hx rfl (hb hby dj52_47_7) rfl ?_
    show Steps _ _ _ (T1.setTop (mkF mM 8 #[.val (.ref t), .val (.int d), .val (.int 0), .val (.int (Int32.ofNat n))] [(.int d), (.ref t)])) _
    refine XS.iloadN X1.here hx rfl (hb hby dj52_47_8) rfl ?_
    show Steps _ _ _ (T1.setTop (mkF mM 9 #[.val (.ref t), .val (.int d), .val (.int 0), .val (.int (Int32.ofNat n))] [(.int 0), (.int d), (.ref t)])) _
    refine XS.iloadN X1.here hx rfl (hb hby dj52_47_9) rfl ?_
    show Steps _ _ _ (T1.setTop (mkF mM 10 #[.val (.ref t), .val (.int d), .val (.int 0), .val (.int (Int32.ofNat n))] [(.int (Int32.ofNat n)), (.int 0), (.int d), (.ref t)])) _
    refine st2 _ ?_
    show Steps _ _ _ (T2.setTop (mkF mM 13 #[.val (.ref t), .val (.int d), .val (.int 0), .val (.int (Int32.ofNat n))] [(.int (own_ixk cs d 0 n))])) _
    exact retI X2 hx Bd.returns (hb hby dj52_47_13) hr
  · show Q_uioc Z t k n cs d fm h0 n0 _ T2.heap _
    rw [Kq2]
    exact ⟨rfl, rfl, rfl⟩
theorem ef_uix (m : MethodId) (x0 : Addr) (x1 : Int32) (x2 : Int32) (x3 : Int32) : entryFrame m #[(.ref x0), (.int x1), (.int x2), (.int x3)] 4 = mkF m 0 #[.val (.ref x0), .val (.int x1), .val (.int x2), .val (.int x3)] [] := by first | (simp [entryFrame, mkF, argsToLocals, Value.category]; done) | rfl
def Q_uix (Z : State) (t : Addr) (k : ClassId) (n : Nat) (cs : List Int32) (d : Int32) (fm : Value) (h0 : Heap) (n0 : Nat) (vV : Option Value) (h : Heap) (LL : List Loc) : Prop := vV = some (.int (own_ixk cs d 0 n)) ∧ LL = [] ∧ h = h0
set_option maxRecDepth 65536 in
set_option maxHeartbeats 40000000 in
theorem rm_uix (l : Launch) (Z : State) (a0 : Array Value) (hw : ∀ d ∈ tables_1, d.before a0 Z = true) (ws : List Jvm.Cond) (t : Addr) (k : ClassId) (n : Nat) (cs : List Int32) (d : Int32) (fm : Value) (h0 : Heap) (n0 : Nat) (O0 : Old Z n0 h0) (V_t : Arv Z h0 t k .byte (Int32.ofNat (2 * n)) (own_u16 cs) (.int 0)) (hp1 : (cs.length = n ∧ n ≤ 4)) (hp2 : (∀ c ∈ cs, ¬ c < 0 ∧ ¬ (65535 : Int32) < c)) (S__assertionsDisabled : Sta Z Z.heap "java/lang/StringUTF16" "$assertionsDisabled" "Z" (.int 1)) (S_HI_BYTE_SHIFT : Sta Z Z.heap "java/lang/StringUTF16" "HI_BYTE_SHIFT" "I" (.int 0)) (S_LO_BYTE_SHIFT : Sta Z Z.heap "java/lang/StringUTF16" "LO_BYTE_SHIFT" "I" (.int 8)) (S_SIOOBE_FORMATTER : Sta Z Z.heap "jdk/internal/util/Preconditions" "SIOOBE_FORMATTER" "Ljava/util/function/BiFunction;" fm) (hp7 : (fm.isRef = true)) (hp8 : (0 < n)) (hp9 : (d < (65536 : Int32))) :
    MetFree l (⟨"java/lang/StringUTF16", "indexOf", "([BIII)I"⟩ : MethodName) (head1 (Jvm.Cond.code (⟨"java/lang/StringUTF16", "indexOf", "([BIII)I"⟩ : MethodName) jdk_52_method_40_code 4 (some .int) :: ws) (⟨4, 0, 0, 58⟩ : Room)) (fun aa_ U => aa_ = #[(.ref t), (.int d), (.int 0), (.int (Int32.ofNat n))] ∧ Z.Warmed39 U.vm ∧ U.heap = h0) (fun _ _ _ _ _ => True) (fun _ U o U' => ∃ vV LL, o = .returned vV ∧ Q_uix Z t k n cs d fm h0 n0 vV U'.heap LL ∧ FrameEnd U o U' LL (⟨4, 0, 0, 58⟩ : Room).cells (⟨4, 0, 0, 58⟩ : Room).slots) := by
  refine MetFree.of_bodySF (plainFor_of_name pn_2) hisR ?_
  intro pP eE sS mM args below meth cC s₁ Bd hml0 hP hK
  obtain ⟨rfl, hZ, hh⟩ := hP
  have hx := Bd.exec
  have hby := Bd.bytes
  have hml : cC.maxLocals = 4 := hml0
  have hown : sS.vm.findClass "java/lang/StringUTF16" = some mM.cls := findClass_of_methodNamed Bd.named
  have hnm := (name_of_methodNamed Bd.named Bd.method).1
  have X0 : Stand pP l eE (⟨4, 0, 0, 58⟩ : Room) sS mM #[(.ref t), (.int d), (.int 0), (.int (Int32.ofNat n))] below meth cC s₁ [] 0 0 := Stand.of_body Bd
  have e0 : s₁.heap = h0 := by rw [← hh, Bd.state]; rfl
  have N0 := Fr.nil n0
  have pre0 : ∀ tg, Steps pP.tables eE below (s₁.setTop (mkF mM 0 #[.val (.ref t), .val (.int d), .val (.int 0), .val (.int (Int32.ofNat n))] [])) tg → Steps pP.tables eE below (s₁.setTop (entryFrame mM #[(.ref t), (.int d), (.int 0), (.int (Int32.ofNat n))] 4)) tg := fun tg kg => castTop (ef_uix mM t d (0 : Int32) (Int32.ofNat n)) kg
  obtain ⟨_, _, ⟨T1, L1, k1, n1⟩, -, X1, ⟨Lc1, hQ1, l1, y1, z1⟩, st1⟩ := Jvm.LawKit.callS X0 hx (y := (⟨"java/lang/Math", "max", "(II)I"⟩ : MethodName)) hown (mvT hZ (w_110 hw)) (mvT hZ (w_66 hw)) (mvT hZ (w_67 hw)) (mvT hZ (w_68 hw)) (by decide) (backOf (W := 0) (rm_max l Z a0 hw [] (0 : Int32) (0 : Int32) h0 n0 O0 ) hZ (w_68 hw) (w_67 hw) (by decide) (by decide)) (g := (mkF mM 2 #[.val (.ref t), .val (.int d), .val (.int 0), .val (.int (Int32.ofNat n))] [(.int 0), (.int 0)])) rfl (by rw [hml]; rfl) (argsL := [(.int 0), (.int 0)]) (rest := []) (lenOf pd_7 rfl) rfl (by show 2 * 0 + _ ≤ _; exact Nat.le_of_eq rfl) (hb hby dj52_40_2) (fun _ _ => ⟨rfl, e0, (by decide : 0 + 0 ≤ _), (by decide : 0 + 0 ≤ _)⟩)
  dsimp only [Pt.U, Pt.locs, Pt.cells, Pt.slots] at X1 l1 y1 z1 st1 hQ1
  subst l1 y1 z1
  obtain ⟨rfl, rfl, Kq1⟩ := hQ1
  try rw [List.append_nil] at X1
  obtain ⟨cl2, Ar2, -, S2, Nn2, -, -⟩ := id V_t
  obtain ⟨_, _, ⟨T3, L3, k3, n3⟩, -, X3, ⟨Lc3, hQ3, l3, y3, z3⟩, st3⟩ := Jvm.LawKit.callS X1 hx (y := (⟨"java/lang/Math", "min", "(II)I"⟩ : MethodName)) hown (mvT hZ (w_111 hw)) (mvT hZ (w_70 hw)) (mvT hZ (w_67 hw)) (mvT hZ (w_71 hw)) (by decide) (backOf (W := 0) (rm_min l Z a0 hw [] (Int32.ofNat n) (Int32.ofNat n) h0 n0 O0 ) hZ (w_71 hw) (w_67 hw) (by decide) (by decide)) (g := (mkF mM 11 #[.val (.ref t), .val (.int d), .val (.int 0), .val (.int (Int32.ofNat n))] [(.int (Int32.ofNat n)), (.int (Int32.ofNat n))])) rfl (by rw [hml]; rfl) (argsL := [(.int (Int32.ofNat n)), (.int (Int32.ofNat n))]) (rest := []) (lenOf pd_7 rfl) rfl (by show 2 * 0 + _ ≤ _; exact Nat.le_of_eq rfl) (hb hby dj52_40_11) (fun _ _ => ⟨rfl, Kq1, (by decide : 0 + 0 ≤ _), (by decide : 0 + 0 ≤ _)⟩)
  dsimp only [Pt.U, Pt.locs, Pt.cells, Pt.slots] at X3 l3 y3 z3 st3 hQ3
  subst l3 y3 z3
  obtain ⟨rfl, rfl, Kq3⟩ := hQ3
  try rw [List.append_nil] at X3
  obtain ⟨_, _, ⟨T4, L4, k4, n4⟩, -, X4, ⟨Lc4, hQ4, l4, y4, z4⟩, st4⟩ := Jvm.LawKit.callS X3 hx (y := (⟨"java/lang/StringUTF16", "indexOfChar", "([BIII)I"⟩ : MethodName)) hown (mvT hZ (w_113 hw)) (mvT hZ (w_114 hw)) (mvT hZ (w_74 hw)) (mvT hZ (w_115 hw)) (by decide) (backOf (W := 0) (rm_uioc l Z a0 hw [] t k n cs d fm h0 n0 O0 V_t (hp1 : cs.length = n ∧ n ≤ 4) (hp2 : ∀ c ∈ cs, ¬ c < 0 ∧ ¬ (65535 : Int32) < c) S__assertionsDisabled S_HI_BYTE_SHIFT S_LO_BYTE_SHIFT S_SIOOBE_FORMATTER hp7) hZ (w_115 hw) (w_74 hw) (by decide) (by decide)) (g := (mkF mM 32 #[.val (.ref t), .val (.int d), .val (.int 0), .val (.int (Int32.ofNat n))] [(.int (Int32.ofNat n)), (.int 0), (.int d), (.ref t)])) rfl (by rw [hml]; rfl) (argsL := [(.ref t), (.int d), (.int 0), (.int (Int32.ofNat n))]) (rest := []) (lenOf pd_6 rfl) rfl (by show 2 * 0 + _ ≤ _; exact Nat.le_of_eq rfl) (hb hby dj52_40_32) (fun _ _ => ⟨rfl, Kq3, (by decide : 0 + 0 ≤ _), (by decide : 0 + 0 ≤ _)⟩)
  dsimp only [Pt.U, Pt.locs, Pt.cells, Pt.slots] at X4 l4 y4 z4 st4 hQ4
  subst l4 y4 z4
  obtain ⟨rfl, rfl, Kq4⟩ := hQ4
  try rw [List.append_nil] at X4
  obtain ⟨fs, hr, hrun, hended, hW, hsame⟩ := X4.leave (v := some (.int (own_ixk cs d 0 n))) (fun h => by rw [Bd.returns] at h; cases h)
  refine ⟨_, _, pre0 _ ?_, hrun, hended, _, _, rfl, ?_, ⟨_, rfl⟩, hW, hsame.mono (by decide) (by decide)⟩
  · refine XS.iloadN X0.here hx rfl (hb hby dj52_40_0) rfl ?_
    show Steps _ _ _ (s₁.setTop (mkF mM 1 #[.val (.ref t), .val (.int d), .val (.int 0), .val (.int (Int32.ofNat n))] [(.int 0)])) _
    refine XS.iconst X0.here hx rfl (hb hby dj52_40_1) ?_
    show Steps _ _ _ (s₁.setTop (mkF mM 2 #[.val (.ref t), .val (.int d), .val (.int 0), .val (.int (Int32.ofNat n))] [(.int 0), (.int 0)])) _
    refine st1 _ ?_
    show Steps _ _ _ (T1.setTop (mkF mM 5 #[.val (.ref t), .val (.int d), .val (.int 0), .val (.int (Int32.ofNat n))] [(.int (own_max (0 : Int32) (0 : Int32)))])) _
    rw [show own_max (0 : Int32) (0 : Int32) = (0 : Int32) from by decide]
    show Steps _ _ _ (T1.setTop (mkF mM 5 #[.val (.ref t), .val (.int d), .val (.int 0), .val (.int (Int32.ofNat n))] [(.int 0)])) _
    refine XS.istoreN X1.here hx rfl (hb hby dj52_40_5) rfl (l' := #[.val (.ref t), .val (.int d), .val (.int 0), .val (.int (Int32.ofNat n))]) rfl ?_
    show Steps _ _ _ (T1.setTop (mkF mM 6 #[.val (.ref t), .val (.int d), .val (.int 0), .val (.int (Int32.ofNat n))] [])) _
    refine XS.iloadN X1.here hx rfl (hb hby dj52_40_6) rfl ?_
    show Steps _ _ _ (T1.setTop (mkF mM 7 #[.val (.ref t), .val (.int d), .val (.int 0), .val (.int (Int32.ofNat n))] [(.int (Int32.ofNat n))])) _
    refine XS.aloadN X1.here hx rfl (hb hby dj52_40_7) rfl rfl ?_
    show Steps _ _ _ (T1.setTop (mkF mM 8 #[.val (.ref t), .val (.int d), .val (.int 0), .val (.int (Int32.ofNat n))] [(.ref t), (.int (Int32.ofNat n))])) _
    refine X1.arraylength hx (by rw [Kq1]; exact Ar2.1) (State.isArrayOf_alike hZ.alike Ar2.2.1) (g := (mkF mM 8 #[.val (.ref t), .val (.int d), .val (.int 0), .val (.int (Int32.ofNat n))] [(.ref t), (.int (Int32.ofNat n))])) rfl rfl (hb hby dj52_40_8) _ ?_
    rw [len_of S2 Nn2]
    show Steps _ _ _ (T1.setTop (mkF mM 9 #[.val (.ref t), .val (.int d), .val (.int 0), .val (.int (Int32.ofNat n))] [(.int (Int32.ofNat (2 * n))), (.int (Int32.ofNat n))])) _
    refine XS.iconst X1.here hx rfl (hb hby dj52_40_9) ?_
    show Steps _ _ _ (T1.setTop (mkF mM 10 #[.val (.ref t), .val (.int d), .val (.int 0), .val (.int (Int32.ofNat n))] [(.int 1), (.int (Int32.ofNat (2 * n))), (.int (Int32.ofNat n))])) _
    refine XS.ishr X1.here hx rfl (hb hby dj52_40_10) rfl ?_
    show Steps _ _ _ (T1.setTop (mkF mM 11 #[.val (.ref t), .val (.int d), .val (.int 0), .val (.int (Int32.ofNat n))] [(.int ((Int32.ofNat (2 * n)) >>> ((1 : Int32) &&& 31))), (.int (Int32.ofNat n))])) _
    rw [StrChars.shr1 (n := n) (by omega)]
    show Steps _ _ _ (T1.setTop (mkF mM 11 #[.val (.ref t), .val (.int d), .val (.int 0), .val (.int (Int32.ofNat n))] [(.int (Int32.ofNat n)), (.int (Int32.ofNat n))])) _
    refine st3 _ ?_
    show Steps _ _ _ (T3.setTop (mkF mM 14 #[.val (.ref t), .val (.int d), .val (.int 0), .val (.int (Int32.ofNat n))] [(.int (own_min (Int32.ofNat n) (Int32.ofNat n)))])) _
    rw [show own_min (Int32.ofNat n) (Int32.ofNat n) = Int32.ofNat n from own_minself _]
    show Steps _ _ _ (T3.setTop (mkF mM 14 #[.val (.ref t), .val (.int d), .val (.int 0), .val (.int (Int32.ofNat n))] [(.int (Int32.ofNat n))])) _
    refine XS.istoreN X3.here hx rfl (hb hby dj52_40_14) rfl (l' := #[.val (.ref t), .val (.int d), .val (.int 0), .val (.int (Int32.ofNat n))]) rfl ?_
    show Steps _ _ _ (T3.setTop (mkF mM 15 #[.val (.ref t), .val (.int d), .val (.int 0), .val (.int (Int32.ofNat n))] [])) _
    refine XS.iloadN X3.here hx rfl (hb hby dj52_40_15) rfl ?_
    show Steps _ _ _ (T3.setTop (mkF mM 16 #[.val (.ref t), .val (.int d), .val (.int 0), .val (.int (Int32.ofNat n))] [(.int 0)])) _
    refine XS.iloadN X3.here hx rfl (hb hby dj52_40_16) rfl ?_
    show Steps _ _ _ (T3.setTop (mkF mM 17 #[.val (.ref t), .val (.int d), .val (.int 0), .val (.int (Int32.ofNat n))] [(.int (Int32.ofNat n)), (.int 0)])) _
    refine XS.icmpYes X3.here hx rfl (pc0 := 17) (pc' := 22) rfl (hb hby dj52_40_17) rfl (tlt (own_lt (i := 0) (by omega) (by omega))).1 (by decide) (by decide) ?_
    show Steps _ _ _ (T3.setTop (mkF mM 22 #[.val (.ref t), .val (.int d), .val (.int 0), .val (.int (Int32.ofNat n))] [])) _
    refine XS.iloadN X3.here hx rfl (hb hby dj52_40_22) rfl ?_
    show Steps _ _ _ (T3.setTop (mkF mM 23 #[.val (.ref t), .val (.int d), .val (.int 0), .val (.int (Int32.ofNat n))] [(.int d)])) _
    refine X3.ldcInt hx hown (mvT hZ (w_112 hw)) (g := (mkF mM 23 #[.val (.ref t), .val (.int d), .val (.int 0), .val (.int (Int32.ofNat n))] [(.int d)])) rfl (hb hby dj52_40_23) _ ?_
    show Steps _ _ _ (T3.setTop (mkF mM 25 #[.val (.ref t), .val (.int d), .val (.int 0), .val (.int (Int32.ofNat n))] [(.int 65536), (.int d)])) _
    refine XS.icmpNo X3.here hx rfl (hb hby dj52_40_25) rfl (tlt hp9).2.1 ?_
    show Steps _ _ _ (T3.setTop (mkF mM 28 #[.val (.ref t), .val (.int d), .val (.int 0), .val (.int (Int32.ofNat n))] [])) _
    refine XS.aloadN X3.here hx rfl (hb hby dj52_40_28) rfl rfl ?_
    show Steps _ _ _ (T3.setTop (mkF mM 29 #[.val (.ref t), .val (.int d), .val (.int 0), .val (.int (Int32.ofNat n))] [(.ref t)])) _
    refine XS.iloadN X3.here hx rfl (hb hby dj52_40_29) rfl ?_
    show Steps _ _ _ (T3.setTop (mkF mM 30 #[.val (.ref t), .val (.int d), .val (.int 0), .val (.int (Int32.ofNat n))] [(.int d), (.ref t)])) _
    refine XS.iloadN X3.here hx rfl (hb hby dj52_40_30) rfl ?_
    show Steps _ _ _ (T3.setTop (mkF mM 31 #[.val (.ref t), .val (.int d), .val (.int 0), .val (.int (Int32.ofNat n))] [(.int 0), (.int d), (.ref t)])) _
    refine XS.iloadN X3.here hx rfl (hb hby dj52_40_31) rfl ?_
    show Steps _ _ _ (T3.setTop (mkF mM 32 #[.val (.ref t), .val (.int d), .val (.int 0), .val (.int (Int32.ofNat n))] [(.int (Int32.ofNat n)), (.int 0), (.int d), (.ref t)])) _
    refine st4 _ ?_
    show Steps _ _ _ (T4.setTop (mkF mM 35 #[.val (.ref t), .val (.int d), .val (.int 0), .val (.int (Int32.ofNat n))] [(.int (own_ixk cs d 0 n))])) _
    exact retI X4 hx Bd.returns (hb hby dj52_40_35) hr
  · show Q_uix Z t k n cs d fm h0 n0 _ T4.heap _
    rw [Kq4]
    exact ⟨rfl, rfl, rfl⟩
theorem ef_cod1 (m : MethodId) (x0 : Addr) : entryFrame m #[(.ref x0)] 1 = mkF m 0 #[.val (.ref x0)] [] := by first | (simp [entryFrame, mkF, argsToLocals, Value.category]; done) | rfl
def Q_cod1 (Z : State) (x : Addr) (zc : Int32) (h0 : Heap) (n0 : Nat) (vV : Option Value) (h : Heap) (LL : List Loc) : Prop := vV = some (.int 1) ∧ LL = [] ∧ h = h0
set_option maxRecDepth 65536 in
set_option maxHeartbeats 40000000 in
theorem rm_cod1 (l : Launch) (Z : State) (a0 : Array Value) (hw : ∀ d ∈ tables_1, d.before a0 Z = true) (ws : List Jvm.Cond) (x : Addr) (zc : Int32) (h0 : Heap) (n0 : Nat) (O0 : Old Z n0 h0) (F_x_coder : Fld Z h0 x "java/lang/String" "coder" "B" (.int 1)) (S_COMPACT_STRINGS : Sta Z Z.heap "java/lang/String" "COMPACT_STRINGS" "Z" (.int zc)) (hp2 : (¬ (zc = (0 : Int32)))) :
    MetFree l (⟨"java/lang/String", "coder", "()B"⟩ : MethodName) (head1 (Jvm.Cond.code (⟨"java/lang/String", "coder", "()B"⟩ : MethodName) jdk_42_method_152_code 1 (some .byte) :: ws) (⟨0, 0, 0, 0⟩ : Room)) (fun aa_ U => aa_ = #[(.ref x)] ∧ Z.Warmed39 U.vm ∧ U.heap = h0) (fun _ _ _ _ _ => True) (fun _ U o U' => ∃ vV LL, o = .returned vV ∧ Q_cod1 Z x zc h0 n0 vV U'.heap LL ∧ FrameEnd U o U' LL (⟨0, 0, 0, 0⟩ : Room).cells (⟨0, 0, 0, 0⟩ : Room).slots) := by
  refine MetFree.of_bodySF (plainFor_of_name pn_1) hisR ?_
  intro pP eE sS mM args below meth cC s₁ Bd hml0 hP hK
  obtain ⟨rfl, hZ, hh⟩ := hP
  have hx := Bd.exec
  have hby := Bd.bytes
  have hml : cC.maxLocals = 1 := hml0
  have hown : sS.vm.findClass "java/lang/String" = some mM.cls := findClass_of_methodNamed Bd.named
  have hnm := (name_of_methodNamed Bd.named Bd.method).1
  have X0 : Stand pP l eE (⟨0, 0, 0, 0⟩ : Room) sS mM #[(.ref x)] below meth cC s₁ [] 0 0 := Stand.of_body Bd
  have e0 : s₁.heap = h0 := by rw [← hh, Bd.state]; rfl
  have N0 := Fr.nil n0
  have pre0 : ∀ tg, Steps pP.tables eE below (s₁.setTop (mkF mM 0 #[.val (.ref x)] [])) tg → Steps pP.tables eE below (s₁.setTop (entryFrame mM #[(.ref x)] 1)) tg := fun tg kg => castTop (ef_cod1 mM x) kg
  obtain ⟨T1, X1, e1, st1⟩ := getS2 X0 hx hZ hown (host := "") (Or.inl (w_47 hw)) Via.refl e0 (Sta.ext (O0).2 S_COMPACT_STRINGS) (g := (mkF mM 0 #[.val (.ref x)] [])) rfl (hb hby dj42_152_0)
  obtain ⟨T2, X2, e2, st2⟩ := getF X1 hx hZ hown (host := "") (Or.inl (w_27 hw)) Via.refl e1 F_x_coder (g := (mkF mM 7 #[.val (.ref x)] [(.ref x)])) rfl rfl (hb hby dj42_152_7)
  obtain ⟨fs, hr, hrun, hended, hW, hsame⟩ := X2.leave (v := some (.int 1)) (fun h => by rw [Bd.returns] at h; cases h)
  refine ⟨_, _, pre0 _ ?_, hrun, hended, _, _, rfl, ?_, ⟨_, rfl⟩, hW, hsame.mono (by decide) (by decide)⟩
  · refine st1 _ ?_
    show Steps _ _ _ (T1.setTop (mkF mM 3 #[.val (.ref x)] [(.int zc)])) _
    refine XS.ifNo X1.here hx rfl (hb hby dj42_152_3) rfl ((if0 _ _).trans (feq hp2).1) ?_
    show Steps _ _ _ (T1.setTop (mkF mM 6 #[.val (.ref x)] [])) _
    refine XS.aloadN X1.here hx rfl (hb hby dj42_152_6) rfl rfl ?_
    show Steps _ _ _ (T1.setTop (mkF mM 7 #[.val (.ref x)] [(.ref x)])) _
    refine st2 _ ?_
    show Steps _ _ _ (T2.setTop (mkF mM 10 #[.val (.ref x)] [(.int 1)])) _
    refine XS.goto X2.here hx rfl (pc0 := 10) (pc' := 14) rfl (hb hby dj42_152_10) (by decide) (by decide) ?_
    show Steps _ _ _ (T2.setTop (mkF mM 14 #[.val (.ref x)] [(.int 1)])) _
    exact retN X2 hx (t := .byte) Bd.returns (by simp) (hb hby dj42_152_14) hr
  · show Q_cod1 Z x zc h0 n0 _ T2.heap _
    rw [e2]
    exact ⟨rfl, rfl, rfl⟩
theorem ef_lat1 (m : MethodId) (x0 : Addr) : entryFrame m #[(.ref x0)] 1 = mkF m 0 #[.val (.ref x0)] [] := by first | (simp [entryFrame, mkF, argsToLocals, Value.category]; done) | rfl
def Q_lat1 (Z : State) (x : Addr) (zc : Int32) (h0 : Heap) (n0 : Nat) (vV : Option Value) (h : Heap) (LL : List Loc) : Prop := vV = some (.int 0) ∧ LL = [] ∧ h = h0
set_option maxRecDepth 65536 in
set_option maxHeartbeats 40000000 in
theorem rm_lat1 (l : Launch) (Z : State) (a0 : Array Value) (hw : ∀ d ∈ tables_1, d.before a0 Z = true) (ws : List Jvm.Cond) (x : Addr) (zc : Int32) (h0 : Heap) (n0 : Nat) (O0 : Old Z n0 h0) (F_x_coder : Fld Z h0 x "java/lang/String" "coder" "B" (.int 1)) (S_COMPACT_STRINGS : Sta Z Z.heap "java/lang/String" "COMPACT_STRINGS" "Z" (.int zc)) (hp2 : (¬ (zc = (0 : Int32)))) :
    MetFree l (⟨"java/lang/String", "isLatin1", "()Z"⟩ : MethodName) (head1 (Jvm.Cond.code (⟨"java/lang/String", "isLatin1", "()Z"⟩ : MethodName) jdk_42_method_154_code 1 (some .boolean) :: ws) (⟨0, 0, 0, 0⟩ : Room)) (fun aa_ U => aa_ = #[(.ref x)] ∧ Z.Warmed39 U.vm ∧ U.heap = h0) (fun _ _ _ _ _ => True) (fun _ U o U' => ∃ vV LL, o = .returned vV ∧ Q_lat1 Z x zc h0 n0 vV U'.heap LL ∧ FrameEnd U o U' LL (⟨0, 0, 0, 0⟩ : Room).cells (⟨0, 0, 0, 0⟩ : Room).slots) := by
  refine MetFree.of_bodySF (plainFor_of_name pn_1) hisR ?_
  intro pP eE sS mM args below meth cC s₁ Bd hml0 hP hK
  obtain ⟨rfl, hZ, hh⟩ := hP
  have hx := Bd.exec
  have hby := Bd.bytes
  have hml : cC.maxLocals = 1 := hml0
  have hown : sS.vm.findClass "java/lang/String" = some mM.cls := findClass_of_methodNamed Bd.named
  have hnm := (name_of_methodNamed Bd.named Bd.method).1
  have X0 : Stand pP l eE (⟨0, 0, 0, 0⟩ : Room) sS mM #[(.ref x)] below meth cC s₁ [] 0 0 := Stand.of_body Bd
  have e0 : s₁.heap = h0 := by rw [← hh, Bd.state]; rfl
  have N0 := Fr.nil n0
  have pre0 : ∀ tg, Steps pP.tables eE below (s₁.setTop (mkF mM 0 #[.val (.ref x)] [])) tg → Steps pP.tables eE below (s₁.setTop (entryFrame mM #[(.ref x)] 1)) tg := fun tg kg => castTop (ef_lat1 mM x) kg
  obtain ⟨T1, X1, e1, st1⟩ := getS2 X0 hx hZ hown (host := "") (Or.inl (w_47 hw)) Via.refl e0 (Sta.ext (O0).2 S_COMPACT_STRINGS) (g := (mkF mM 0 #[.val (.ref x)] [])) rfl (hb hby dj42_154_0)
  obtain ⟨T2, X2, e2, st2⟩ := getF X1 hx hZ hown (host := "") (Or.inl (w_27 hw)) Via.refl e1 F_x_coder (g := (mkF mM 7 #[.val (.ref x)] [(.ref x)])) rfl rfl (hb hby dj42_154_7)
  obtain ⟨fs, hr, hrun, hended, hW, hsame⟩ := X2.leave (v := some (.int 0)) (fun h => by rw [Bd.returns] at h; cases h)
  refine ⟨_, _, pre0 _ ?_, hrun, hended, _, _, rfl, ?_, ⟨_, rfl⟩, hW, hsame.mono (by decide) (by decide)⟩
  · refine st1 _ ?_
    show Steps _ _ _ (T1.setTop (mkF mM 3 #[.val (.ref x)] [(.int zc)])) _
    refine XS.ifNo X1.here hx rfl (hb hby dj42_154_3) rfl ((if0 _ _).trans (feq hp2).1) ?_
    show Steps _ _ _ (T1.setTop (mkF mM 6 #[.val (.ref x)] [])) _
    refine XS.aloadN X1.here hx rfl (hb hby dj42_154_6) rfl rfl ?_
    show Steps _ _ _ (T1.setTop (mkF mM 7 #[.val (.ref x)] [(.ref x)])) _
    refine st2 _ ?_
    show Steps _ _ _ (T2.setTop (mkF mM 10 #[.val (.ref x)] [(.int 1)])) _
    refine XS.ifYes X2.here hx rfl (pc0 := 10) (pc' := 17) rfl (hb hby dj42_154_10) rfl ((if0 _ _).trans (feq (by decide : ¬ ((1 : Int32) = (0 : Int32)))).2) (by decide) (by decide) ?_
    show Steps _ _ _ (T2.setTop (mkF mM 17 #[.val (.ref x)] [])) _
    refine XS.iconst X2.here hx rfl (hb hby dj42_154_17) ?_
    show Steps _ _ _ (T2.setTop (mkF mM 18 #[.val (.ref x)] [(.int 0)])) _
    exact retN X2 hx (t := .boolean) Bd.returns (by simp) (hb hby dj42_154_18) hr
  · show Q_lat1 Z x zc h0 n0 _ T2.heap _
    rw [e2]
    exact ⟨rfl, rfl, rfl⟩
theorem ef_len1 (m : MethodId) (x0 : Addr) : entryFrame m #[(.ref x0)] 1 = mkF m 0 #[.val (.ref x0)] [] := by first | (simp [entryFrame, mkF, argsToLocals, Value.category]; done) | rfl
def Q_len1 (Z : State) (x : Addr) (t : Addr) (k : ClassId) (n : Nat) (vs : List Value) (zc : Int32) (h0 : Heap) (n0 : Nat) (vV : Option Value) (h : Heap) (LL : List Loc) : Prop := vV = some (.int (Int32.ofNat n)) ∧ LL = [] ∧ h = h0
set_option maxRecDepth 65536 in
set_option maxHeartbeats 40000000 in
theorem rm_len1 (l : Launch) (Z : State) (a0 : Array Value) (hw : ∀ d ∈ tables_1, d.before a0 Z = true) (ws : List Jvm.Cond) (x : Addr) (t : Addr) (k : ClassId) (n : Nat) (vs : List Value) (zc : Int32) (h0 : Heap) (n0 : Nat) (O0 : Old Z n0 h0) (E_x : Exa Z h0 x "java/lang/String") (F_x_value : Fld Z h0 x "java/lang/String" "value" "[B" (.ref t)) (F_x_coder : Fld Z h0 x "java/lang/String" "coder" "B" (.int 1)) (V_t : Arv Z h0 t k .byte (Int32.ofNat (2 * n)) vs (.int 0)) (hp4 : (n ≤ 4)) (S_COMPACT_STRINGS : Sta Z Z.heap "java/lang/String" "COMPACT_STRINGS" "Z" (.int zc)) (hp6 : (¬ (zc = (0 : Int32)))) :
    MetFree l (⟨"java/lang/String", "length", "()I"⟩ : MethodName) (head1 (Jvm.Cond.code (⟨"java/lang/String", "length", "()I"⟩ : MethodName) jdk_42_method_54_code 1 (some .int) :: ws) (⟨1, 0, 0, 13⟩ : Room)) (fun aa_ U => aa_ = #[(.ref x)] ∧ Z.Warmed39 U.vm ∧ U.heap = h0) (fun _ _ _ _ _ => True) (fun _ U o U' => ∃ vV LL, o = .returned vV ∧ Q_len1 Z x t k n vs zc h0 n0 vV U'.heap LL ∧ FrameEnd U o U' LL (⟨1, 0, 0, 13⟩ : Room).cells (⟨1, 0, 0, 13⟩ : Room).slots) := by
  refine MetFree.of_bodySF (plainFor_of_name pn_1) hisR ?_
  intro pP eE sS mM args below meth cC s₁ Bd hml0 hP hK
  obtain ⟨rfl, hZ, hh⟩ := hP
  have hx := Bd.exec
  have hby := Bd.bytes
  have hml : cC.maxLocals = 1 := hml0
  have hown : sS.vm.findClass "java/lang/String" = some mM.cls := findClass_of_methodNamed Bd.named
  have hnm := (name_of_methodNamed Bd.named Bd.method).1
  have X0 : Stand pP l eE (⟨1, 0, 0, 13⟩ : Room) sS mM #[(.ref x)] below meth cC s₁ [] 0 0 := Stand.of_body Bd
  have e0 : s₁.heap = h0 := by rw [← hh, Bd.state]; rfl
  have N0 := Fr.nil n0
  have pre0 : ∀ tg, Steps pP.tables eE below (s₁.setTop (mkF mM 0 #[.val (.ref x)] [])) tg → Steps pP.tables eE below (s₁.setTop (entryFrame mM #[(.ref x)] 1)) tg := fun tg kg => castTop (ef_len1 mM x) kg
  obtain ⟨T1, X1, e1, st1⟩ := getF X0 hx hZ hown (host := "") (Or.inl (w_26 hw)) Via.refl e0 F_x_value (g := (mkF mM 1 #[.val (.ref x)] [(.ref x)])) rfl rfl (hb hby dj42_54_1)
  obtain ⟨cl2, Ar2, -, S2, Nn2, -, -⟩ := id V_t
  obtain ⟨cq3, kq3, q3a, q3b, q3c⟩ := isOf hZ e1 E_x
  obtain ⟨_, _, ⟨T3, L3, k3, n3⟩, -, X3, ⟨Lc3, hQ3, l3, y3, z3⟩, st3⟩ := X1.virtualBack hx (y := (⟨"java/lang/String", "coder", "()B"⟩ : MethodName)) (z := (⟨"java/lang/String", "coder", "()B"⟩ : MethodName)) hown (mvT hZ (w_53 hw)) (mvT hZ (w_54 hw)) (notFace_of_selects (args := #[]) (mvT hZ (w_56 hw))) (mvT hZ (w_56 hw)) (mvT hZ (w_55 hw)) (by decide) (backOf (W := 1) (rm_cod1 l Z a0 hw [] x zc h0 n0 O0 F_x_coder S_COMPACT_STRINGS hp6) hZ (w_57 hw) (w_9 hw) (by decide) (by decide)) q3a q3c (g := (mkF mM 6 #[.val (.ref x)] [(.ref x), (.int (Int32.ofNat (2 * n)))])) rfl (by rw [hml]; rfl) (Steps.refl _) (argsL := []) (rest := [(.int (Int32.ofNat (2 * n)))]) (lenOf pd_8 rfl) rfl (by show 2 * 0 + _ ≤ _; exact Nat.le_of_eq rfl) (hb hby dj42_54_6) (fun _ _ => ⟨rfl, e1, (by decide : 0 + 0 ≤ _), (by decide : 0 + 0 ≤ _)⟩)
  dsimp only [Pt.U, Pt.locs, Pt.cells, Pt.slots] at X3 l3 y3 z3 st3 hQ3
  subst l3 y3 z3
  obtain ⟨rfl, rfl, Kq3⟩ := hQ3
  try rw [List.append_nil] at X3
  obtain ⟨fs, hr, hrun, hended, hW, hsame⟩ := X3.leave (v := some (.int (Int32.ofNat n))) (fun h => by rw [Bd.returns] at h; cases h)
  refine ⟨_, _, pre0 _ ?_, hrun, hended, _, _, rfl, ?_, ⟨_, rfl⟩, hW, hsame.mono (by decide) (by decide)⟩
  · refine XS.aloadN X0.here hx rfl (hb hby dj42_54_0) rfl rfl ?_
    show Steps _ _ _ (s₁.setTop (mkF mM 1 #[.val (.ref x)] [(.ref x)])) _
    refine st1 _ ?_
    show Steps _ _ _ (T1.setTop (mkF mM 4 #[.val (.ref x)] [(.ref t)])) _
    refine X1.arraylength hx (by rw [e1]; exact Ar2.1) (State.isArrayOf_alike hZ.alike Ar2.2.1) (g := (mkF mM 4 #[.val (.ref x)] [(.ref t)])) rfl rfl (hb hby dj42_54_4) _ ?_
    rw [len_of S2 Nn2]
    show Steps _ _ _ (T1.setTop (mkF mM 5 #[.val (.ref x)] [(.int (Int32.ofNat (2 * n)))])) _
    refine XS.aloadN X1.here hx rfl (hb hby dj42_54_5) rfl rfl ?_
    show Steps _ _ _ (T1.setTop (mkF mM 6 #[.val (.ref x)] [(.ref x), (.int (Int32.ofNat (2 * n)))])) _
    refine st3.trans ?_
    show Steps _ _ _ (T3.setTop (mkF mM 9 #[.val (.ref x)] [(.int 1), (.int (Int32.ofNat (2 * n)))])) _
    refine XS.ishr X3.here hx rfl (hb hby dj42_54_9) rfl ?_
    show Steps _ _ _ (T3.setTop (mkF mM 10 #[.val (.ref x)] [(.int ((Int32.ofNat (2 * n)) >>> ((1 : Int32) &&& 31)))])) _
    rw [StrChars.shr1 (n := n) (by omega)]
    show Steps _ _ _ (T3.setTop (mkF mM 10 #[.val (.ref x)] [(.int (Int32.ofNat n))])) _
    exact retI X3 hx Bd.returns (hb hby dj42_54_10) hr
  · show Q_len1 Z x t k n vs zc h0 n0 _ T3.heap _
    rw [Kq3]
    exact ⟨rfl, rfl, rfl⟩
theorem ef_sio2 (m : MethodId) (x0 : Addr) (x1 : Int32) (x2 : Int32) : entryFrame m #[(.ref x0), (.int x1), (.int x2)] 3 = mkF m 0 #[.val (.ref x0), .val (.int x1), .val (.int x2)] [] := by first | (simp [entryFrame, mkF, argsToLocals, Value.category]; done) | rfl
def Q_sio2 (Z : State) (x : Addr) (t : Addr) (k : ClassId) (n : Nat) (cs : List Int32) (d : Int32) (zc : Int32) (fm : Value) (h0 : Heap) (n0 : Nat) (vV : Option Value) (h : Heap) (LL : List Loc) : Prop := vV = some (.int (own_ixk cs d 0 n)) ∧ LL = [] ∧ h = h0
set_option maxRecDepth 65536 in
set_option maxHeartbeats 40000000 in
theorem rm_sio2 (l : Launch) (Z : State) (a0 : Array Value) (hw : ∀ d ∈ tables_1, d.before a0 Z = true) (ws : List Jvm.Cond) (x : Addr) (t : Addr) (k : ClassId) (n : Nat) (cs : List Int32) (d : Int32) (zc : Int32) (fm : Value) (h0 : Heap) (n0 : Nat) (O0 : Old Z n0 h0) (E_x : Exa Z h0 x "java/lang/String") (F_x_value : Fld Z h0 x "java/lang/String" "value" "[B" (.ref t)) (F_x_coder : Fld Z h0 x "java/lang/String" "coder" "B" (.int 1)) (V_t : Arv Z h0 t k .byte (Int32.ofNat (2 * n)) (own_u16 cs) (.int 0)) (hp4 : (cs.length = n ∧ n ≤ 4)) (hp5 : (∀ c ∈ cs, ¬ c < 0 ∧ ¬ (65535 : Int32) < c)) (S__assertionsDisabled : Sta Z Z.heap "java/lang/StringUTF16" "$assertionsDisabled" "Z" (.int 1)) (S_HI_BYTE_SHIFT : Sta Z Z.heap "java/lang/StringUTF16" "HI_BYTE_SHIFT" "I" (.int 0)) (S_LO_BYTE_SHIFT : Sta Z Z.heap "java/lang/StringUTF16" "LO_BYTE_SHIFT" "I" (.int 8)) (S_COMPACT_STRINGS : Sta Z Z.heap "java/lang/String" "COMPACT_STRINGS" "Z" (.int zc)) (hp10 : (¬ (zc = (0 : Int32)))) (S_SIOOBE_FORMATTER : Sta Z Z.heap "jdk/internal/util/Preconditions" "SIOOBE_FORMATTER" "Ljava/util/function/BiFunction;" fm) (hp12 : (fm.isRef = true)) (hp13 : (0 < n)) (hp14 : (d < (65536 : Int32))) :
    MetFree l (⟨"java/lang/String", "indexOf", "(II)I"⟩ : MethodName) (head1 (Jvm.Cond.code (⟨"java/lang/String", "indexOf", "(II)I"⟩ : MethodName) jdk_42_method_80_code 3 (some .int) :: ws) (⟨5, 0, 0, 73⟩ : Room)) (fun aa_ U => aa_ = #[(.ref x), (.int d), (.int 0)] ∧ Z.Warmed39 U.vm ∧ U.heap = h0) (fun _ _ _ _ _ => True) (fun _ U o U' => ∃ vV LL, o = .returned vV ∧ Q_sio2 Z x t k n cs d zc fm h0 n0 vV U'.heap LL ∧ FrameEnd U o U' LL (⟨5, 0, 0, 73⟩ : Room).cells (⟨5, 0, 0, 73⟩ : Room).slots) := by
  refine MetFree.of_bodySF (plainFor_of_name pn_1) hisR ?_
  intro pP eE sS mM args below meth cC s₁ Bd hml0 hP hK
  obtain ⟨rfl, hZ, hh⟩ := hP
  have hx := Bd.exec
  have hby := Bd.bytes
  have hml : cC.maxLocals = 3 := hml0
  have hown : sS.vm.findClass "java/lang/String" = some mM.cls := findClass_of_methodNamed Bd.named
  have hnm := (name_of_methodNamed Bd.named Bd.method).1
  have X0 : Stand pP l eE (⟨5, 0, 0, 73⟩ : Room) sS mM #[(.ref x), (.int d), (.int 0)] below meth cC s₁ [] 0 0 := Stand.of_body Bd
  have e0 : s₁.heap = h0 := by rw [← hh, Bd.state]; rfl
  have N0 := Fr.nil n0
  have pre0 : ∀ tg, Steps pP.tables eE below (s₁.setTop (mkF mM 0 #[.val (.ref x), .val (.int d), .val (.int 0)] [])) tg → Steps pP.tables eE below (s₁.setTop (entryFrame mM #[(.ref x), (.int d), (.int 0)] 3)) tg := fun tg kg => castTop (ef_sio2 mM x d (0 : Int32)) kg
  obtain ⟨cq1, kq1, q1a, q1b, q1c⟩ := isOf hZ e0 E_x
  obtain ⟨_, _, ⟨T1, L1, k1, n1⟩, -, X1, ⟨Lc1, hQ1, l1, y1, z1⟩, st1⟩ := X0.virtualBack hx (y := (⟨"java/lang/String", "isLatin1", "()Z"⟩ : MethodName)) (z := (⟨"java/lang/String", "isLatin1", "()Z"⟩ : MethodName)) hown (mvT hZ (w_42 hw)) (mvT hZ (w_43 hw)) (notFace_of_selects (args := #[]) (mvT hZ (w_45 hw))) (mvT hZ (w_45 hw)) (mvT hZ (w_44 hw)) (by decide) (backOf (W := 0) (rm_lat1 l Z a0 hw [] x zc h0 n0 O0 F_x_coder S_COMPACT_STRINGS hp10) hZ (w_46 hw) (w_9 hw) (by decide) (by decide)) q1a q1c (g := (mkF mM 1 #[.val (.ref x), .val (.int d), .val (.int 0)] [(.ref x)])) rfl (by rw [hml]; rfl) (Steps.refl _) (argsL := []) (rest := []) (lenOf pd_9 rfl) rfl (by show 2 * 0 + _ ≤ _; exact Nat.le_of_eq rfl) (hb hby dj42_80_1) (fun _ _ => ⟨rfl, e0, (by decide : 0 + 0 ≤ _), (by decide : 0 + 0 ≤ _)⟩)
  dsimp only [Pt.U, Pt.locs, Pt.cells, Pt.slots] at X1 l1 y1 z1 st1 hQ1
  subst l1 y1 z1
  obtain ⟨rfl, rfl, Kq1⟩ := hQ1
  try rw [List.append_nil] at X1
  obtain ⟨T2, X2, e2, st2⟩ := getF X1 hx hZ hown (host := "") (Or.inl (w_26 hw)) Via.refl Kq1 F_x_value (g := (mkF mM 24 #[.val (.ref x), .val (.int d), .val (.int 0)] [(.ref x)])) rfl rfl (hb hby dj42_80_24)
  obtain ⟨cq3, kq3, q3a, q3b, q3c⟩ := isOf hZ e2 E_x
  obtain ⟨_, _, ⟨T3, L3, k3, n3⟩, -, X3, ⟨Lc3, hQ3, l3, y3, z3⟩, st3⟩ := X2.virtualBack hx (y := (⟨"java/lang/String", "length", "()I"⟩ : MethodName)) (z := (⟨"java/lang/String", "length", "()I"⟩ : MethodName)) hown (mvT hZ (w_48 hw)) (mvT hZ (w_49 hw)) (notFace_of_selects (args := #[]) (mvT hZ (w_51 hw))) (mvT hZ (w_51 hw)) (mvT hZ (w_50 hw)) (by decide) (backOf (W := 3) (rm_len1 l Z a0 hw [] x t k n (own_u16 cs) zc h0 n0 O0 E_x F_x_value F_x_coder V_t (by omega : n ≤ 4) S_COMPACT_STRINGS hp10) hZ (w_52 hw) (w_9 hw) (by decide) (by decide)) q3a q3c (g := (mkF mM 30 #[.val (.ref x), .val (.int d), .val (.int 0)] [(.ref x), (.int 0), (.int d), (.ref t)])) rfl (by rw [hml]; rfl) (Steps.refl _) (argsL := []) (rest := [(.int 0), (.int d), (.ref t)]) (lenOf pd_10 rfl) rfl (by show 2 * 0 + _ ≤ _; exact Nat.le_of_eq rfl) (hb hby dj42_80_30) (fun _ _ => ⟨rfl, e2, (by decide : 0 + 0 ≤ _), (by decide : 0 + 0 ≤ _)⟩)
  dsimp only [Pt.U, Pt.locs, Pt.cells, Pt.slots] at X3 l3 y3 z3 st3 hQ3
  subst l3 y3 z3
  obtain ⟨rfl, rfl, Kq3⟩ := hQ3
  try rw [List.append_nil] at X3
  obtain ⟨_, _, ⟨T4, L4, k4, n4⟩, -, X4, ⟨Lc4, hQ4, l4, y4, z4⟩, st4⟩ := Jvm.LawKit.callS X3 hx (y := (⟨"java/lang/StringUTF16", "indexOf", "([BIII)I"⟩ : MethodName)) hown (mvT hZ (w_107 hw)) (mvT hZ (w_108 hw)) (mvT hZ (w_74 hw)) (mvT hZ (w_109 hw)) (by decide) (backOf (W := 0) (rm_uix l Z a0 hw [] t k n cs d fm h0 n0 O0 V_t (hp4 : cs.length = n ∧ n ≤ 4) (hp5 : ∀ c ∈ cs, ¬ c < 0 ∧ ¬ (65535 : Int32) < c) S__assertionsDisabled S_HI_BYTE_SHIFT S_LO_BYTE_SHIFT S_SIOOBE_FORMATTER hp12 hp13 hp14) hZ (w_109 hw) (w_74 hw) (by decide) (by decide)) (g := (mkF mM 33 #[.val (.ref x), .val (.int d), .val (.int 0)] [(.int (Int32.ofNat n)), (.int 0), (.int d), (.ref t)])) rfl (by rw [hml]; rfl) (argsL := [(.ref t), (.int d), (.int 0), (.int (Int32.ofNat n))]) (rest := []) (lenOf pd_6 rfl) rfl (by show 2 * 0 + _ ≤ _; exact Nat.le_of_eq rfl) (hb hby dj42_80_33) (fun _ _ => ⟨rfl, Kq3, (by decide : 0 + 0 ≤ _), (by decide : 0 + 0 ≤ _)⟩)
  dsimp only [Pt.U, Pt.locs, Pt.cells, Pt.slots] at X4 l4 y4 z4 st4 hQ4
  subst l4 y4 z4
  obtain ⟨rfl, rfl, Kq4⟩ := hQ4
  try rw [List.append_nil] at X4
  obtain ⟨fs, hr, hrun, hended, hW, hsame⟩ := X4.leave (v := some (.int (own_ixk cs d 0 n))) (fun h => by rw [Bd.returns] at h; cases h)
  refine ⟨_, _, pre0 _ ?_, hrun, hended, _, _, rfl, ?_, ⟨_, rfl⟩, hW, hsame.mono (by decide) (by decide)⟩
  · refine XS.aloadN X0.here hx rfl (hb hby dj42_80_0) rfl rfl ?_
    show Steps _ _ _ (s₁.setTop (mkF mM 1 #[.val (.ref x), .val (.int d), .val (.int 0)] [(.ref x)])) _
    refine st1.trans ?_
    show Steps _ _ _ (T1.setTop (mkF mM 4 #[.val (.ref x), .val (.int d), .val (.int 0)] [(.int 0)])) _
    refine XS.ifYes X1.here hx rfl (pc0 := 4) (pc' := 23) rfl (hb hby dj42_80_4) rfl ((if0 _ _).trans (teq (by decide : (0 : Int32) = (0 : Int32))).1) (by decide) (by decide) ?_
    show Steps _ _ _ (T1.setTop (mkF mM 23 #[.val (.ref x), .val (.int d), .val (.int 0)] [])) _
    refine XS.aloadN X1.here hx rfl (hb hby dj42_80_23) rfl rfl ?_
    show Steps _ _ _ (T1.setTop (mkF mM 24 #[.val (.ref x), .val (.int d), .val (.int 0)] [(.ref x)])) _
    refine st2 _ ?_
    show Steps _ _ _ (T2.setTop (mkF mM 27 #[.val (.ref x), .val (.int d), .val (.int 0)] [(.ref t)])) _
    refine XS.iloadN X2.here hx rfl (hb hby dj42_80_27) rfl ?_
    show Steps _ _ _ (T2.setTop (mkF mM 28 #[.val (.ref x), .val (.int d), .val (.int 0)] [(.int d), (.ref t)])) _
    refine XS.iloadN X2.here hx rfl (hb hby dj42_80_28) rfl ?_
    show Steps _ _ _ (T2.setTop (mkF mM 29 #[.val (.ref x), .val (.int d), .val (.int 0)] [(.int 0), (.int d), (.ref t)])) _
    refine XS.aloadN X2.here hx rfl (hb hby dj42_80_29) rfl rfl ?_
    show Steps _ _ _ (T2.setTop (mkF mM 30 #[.val (.ref x), .val (.int d), .val (.int 0)] [(.ref x), (.int 0), (.int d), (.ref t)])) _
    refine st3.trans ?_
    show Steps _ _ _ (T3.setTop (mkF mM 33 #[.val (.ref x), .val (.int d), .val (.int 0)] [(.int (Int32.ofNat n)), (.int 0), (.int d), (.ref t)])) _
    refine st4 _ ?_
    show Steps _ _ _ (T4.setTop (mkF mM 36 #[.val (.ref x), .val (.int d), .val (.int 0)] [(.int (own_ixk cs d 0 n))])) _
    exact retI X4 hx Bd.returns (hb hby dj42_80_36) hr
  · show Q_sio2 Z x t k n cs d zc fm h0 n0 _ T4.heap _
    rw [Kq4]
    exact ⟨rfl, rfl, rfl⟩
theorem ef_sio1 (m : MethodId) (x0 : Addr) (x1 : Int32) : entryFrame m #[(.ref x0), (.int x1)] 2 = mkF m 0 #[.val (.ref x0), .val (.int x1)] [] := by first | (simp [entryFrame, mkF, argsToLocals, Value.category]; done) | rfl
def Q_sio1 (Z : State) (x : Addr) (t : Addr) (k : ClassId) (n : Nat) (cs : List Int32) (d : Int32) (zc : Int32) (fm : Value) (h0 : Heap) (n0 : Nat) (vV : Option Value) (h : Heap) (LL : List Loc) : Prop := vV = some (.int (own_ixk cs d 0 n)) ∧ LL = [] ∧ h = h0
set_option maxRecDepth 65536 in
set_option maxHeartbeats 40000000 in
theorem rm_sio1 (l : Launch) (Z : State) (a0 : Array Value) (hw : ∀ d ∈ tables_1, d.before a0 Z = true) (ws : List Jvm.Cond) (x : Addr) (t : Addr) (k : ClassId) (n : Nat) (cs : List Int32) (d : Int32) (zc : Int32) (fm : Value) (h0 : Heap) (n0 : Nat) (O0 : Old Z n0 h0) (E_x : Exa Z h0 x "java/lang/String") (F_x_value : Fld Z h0 x "java/lang/String" "value" "[B" (.ref t)) (F_x_coder : Fld Z h0 x "java/lang/String" "coder" "B" (.int 1)) (V_t : Arv Z h0 t k .byte (Int32.ofNat (2 * n)) (own_u16 cs) (.int 0)) (hp4 : (cs.length = n ∧ n ≤ 4)) (hp5 : (∀ c ∈ cs, ¬ c < 0 ∧ ¬ (65535 : Int32) < c)) (S__assertionsDisabled : Sta Z Z.heap "java/lang/StringUTF16" "$assertionsDisabled" "Z" (.int 1)) (S_HI_BYTE_SHIFT : Sta Z Z.heap "java/lang/StringUTF16" "HI_BYTE_SHIFT" "I" (.int 0)) (S_LO_BYTE_SHIFT : Sta Z Z.heap "java/lang/StringUTF16" "LO_BYTE_SHIFT" "I" (.int 8)) (S_COMPACT_STRINGS : Sta Z Z.heap "java/lang/String" "COMPACT_STRINGS" "Z" (.int zc)) (hp10 : (¬ (zc = (0 : Int32)))) (S_SIOOBE_FORMATTER : Sta Z Z.heap "jdk/internal/util/Preconditions" "SIOOBE_FORMATTER" "Ljava/util/function/BiFunction;" fm) (hp12 : (fm.isRef = true)) (hp13 : (0 < n)) (hp14 : (d < (65536 : Int32))) :
    MetFree l (⟨"java/lang/String", "indexOf", "(I)I"⟩ : MethodName) (head1 (Jvm.Cond.code (⟨"java/lang/String", "indexOf", "(I)I"⟩ : MethodName) jdk_42_method_79_code 2 (some .int) :: ws) (⟨6, 0, 0, 87⟩ : Room)) (fun aa_ U => aa_ = #[(.ref x), (.int d)] ∧ Z.Warmed39 U.vm ∧ U.heap = h0) (fun _ _ _ _ _ => True) (fun _ U o U' => ∃ vV LL, o = .returned vV ∧ Q_sio1 Z x t k n cs d zc fm h0 n0 vV U'.heap LL ∧ FrameEnd U o U' LL (⟨6, 0, 0, 87⟩ : Room).cells (⟨6, 0, 0, 87⟩ : Room).slots) := by
  refine MetFree.of_bodySF (plainFor_of_name pn_1) hisR ?_
  intro pP eE sS mM args below meth cC s₁ Bd hml0 hP hK
  obtain ⟨rfl, hZ, hh⟩ := hP
  have hx := Bd.exec
  have hby := Bd.bytes
  have hml : cC.maxLocals = 2 := hml0
  have hown : sS.vm.findClass "java/lang/String" = some mM.cls := findClass_of_methodNamed Bd.named
  have hnm := (name_of_methodNamed Bd.named Bd.method).1
  have X0 : Stand pP l eE (⟨6, 0, 0, 87⟩ : Room) sS mM #[(.ref x), (.int d)] below meth cC s₁ [] 0 0 := Stand.of_body Bd
  have e0 : s₁.heap = h0 := by rw [← hh, Bd.state]; rfl
  have N0 := Fr.nil n0
  have pre0 : ∀ tg, Steps pP.tables eE below (s₁.setTop (mkF mM 0 #[.val (.ref x), .val (.int d)] [])) tg → Steps pP.tables eE below (s₁.setTop (entryFrame mM #[(.ref x), (.int d)] 2)) tg := fun tg kg => castTop (ef_sio1 mM x d) kg
  obtain ⟨cq1, kq1, q1a, q1b, q1c⟩ := isOf hZ e0 E_x
  obtain ⟨_, _, ⟨T1, L1, k1, n1⟩, -, X1, ⟨Lc1, hQ1, l1, y1, z1⟩, st1⟩ := X0.virtualBack hx (y := (⟨"java/lang/String", "indexOf", "(II)I"⟩ : MethodName)) (z := (⟨"java/lang/String", "indexOf", "(II)I"⟩ : MethodName)) hown (mvT hZ (w_37 hw)) (mvT hZ (w_38 hw)) (notFace_of_selects (args := #[]) (mvT hZ (w_40 hw))) (mvT hZ (w_40 hw)) (mvT hZ (w_39 hw)) (by decide) (backOf (W := 0) (rm_sio2 l Z a0 hw [] x t k n cs d zc fm h0 n0 O0 E_x F_x_value F_x_coder V_t (hp4 : cs.length = n ∧ n ≤ 4) (hp5 : ∀ c ∈ cs, ¬ c < 0 ∧ ¬ (65535 : Int32) < c) S__assertionsDisabled S_HI_BYTE_SHIFT S_LO_BYTE_SHIFT S_COMPACT_STRINGS hp10 S_SIOOBE_FORMATTER hp12 hp13 hp14) hZ (w_41 hw) (w_9 hw) (by decide) (by decide)) q1a q1c (g := (mkF mM 3 #[.val (.ref x), .val (.int d)] [(.int 0), (.int d), (.ref x)])) rfl (by rw [hml]; rfl) (Steps.refl _) (argsL := [(.int d), (.int 0)]) (rest := []) (lenOf pd_7 rfl) rfl (by show 2 * 0 + _ ≤ _; exact Nat.le_of_eq rfl) (hb hby dj42_79_3) (fun _ _ => ⟨rfl, e0, (by decide : 0 + 0 ≤ _), (by decide : 0 + 0 ≤ _)⟩)
  dsimp only [Pt.U, Pt.locs, Pt.cells, Pt.slots] at X1 l1 y1 z1 st1 hQ1
  subst l1 y1 z1
  obtain ⟨rfl, rfl, Kq1⟩ := hQ1
  try rw [List.append_nil] at X1
  obtain ⟨fs, hr, hrun, hended, hW, hsame⟩ := X1.leave (v := some (.int (own_ixk cs d 0 n))) (fun h => by rw [Bd.returns] at h; cases h)
  refine ⟨_, _, pre0 _ ?_, hrun, hended, _, _, rfl, ?_, ⟨_, rfl⟩, hW, hsame.mono (by decide) (by decide)⟩
  · refine XS.aloadN X0.here hx rfl (hb hby dj42_79_0) rfl rfl ?_
    show Steps _ _ _ (s₁.setTop (mkF mM 1 #[.val (.ref x), .val (.int d)] [(.ref x)])) _
    refine XS.iloadN X0.here hx rfl (hb hby dj42_79_1) rfl ?_
    show Steps _ _ _ (s₁.setTop (mkF mM 2 #[.val (.ref x), .val (.int d)] [(.int d), (.ref x)])) _
    refine XS.iconst X0.here hx rfl (hb hby dj42_79_2) ?_
    show Steps _ _ _ (s₁.setTop (mkF mM 3 #[.val (.ref x), .val (.int d)] [(.int 0), (.int d), (.ref x)])) _
    refine st1.trans ?_
    show Steps _ _ _ (T1.setTop (mkF mM 6 #[.val (.ref x), .val (.int d)] [(.int (own_ixk cs d 0 n))])) _
    exact retI X1 hx Bd.returns (hb hby dj42_79_6) hr
  · show Q_sio1 Z x t k n cs d zc fm h0 n0 _ T1.heap _
    rw [Kq1]
    exact ⟨rfl, rfl, rfl⟩
theorem ef_tob1 (m : MethodId) (x0 : Addr) (x1 : Int32) (x2 : Int32) : entryFrame m #[(.ref x0), (.int x1), (.int x2)] 5 = mkF m 0 #[.val (.ref x0), .val (.int x1), .val (.int x2), .unset, .unset] [] := by first | (simp [entryFrame, mkF, argsToLocals, Value.category]; done) | rfl
def Q_tob1 (Z : State) (b : Addr) (kb : ClassId) (c0 : Int32) (h0 : Heap) (n0 : Nat) (vV : Option Value) (h : Heap) (LL : List Loc) : Prop := ∃ (t : Addr) (k : ClassId), vV = some (.ref t) ∧ Fr n0 LL ∧ Keep h0 h [] ∧ h0.size ≤ t ∧ Arv Z h t k .byte (Int32.ofNat (2 * 1)) (own_u16 [c0]) (.int 0)
set_option maxRecDepth 65536 in
set_option maxHeartbeats 40000000 in
theorem rm_tob1 (l : Launch) (Z : State) (a0 : Array Value) (hw : ∀ d ∈ tables_1, d.before a0 Z = true) (ws : List Jvm.Cond) (b : Addr) (kb : ClassId) (c0 : Int32) (h0 : Heap) (n0 : Nat) (O0 : Old Z n0 h0) (V_b : Arv Z h0 b kb .char (1 : Int32) [(.int c0)] (.int 0)) (S__assertionsDisabled : Sta Z Z.heap "java/lang/StringUTF16" "$assertionsDisabled" "Z" (.int 1)) (S_HI_BYTE_SHIFT : Sta Z Z.heap "java/lang/StringUTF16" "HI_BYTE_SHIFT" "I" (.int 0)) (S_LO_BYTE_SHIFT : Sta Z Z.heap "java/lang/StringUTF16" "LO_BYTE_SHIFT" "I" (.int 8)) :
    MetFree l (⟨"java/lang/StringUTF16", "toBytes", "([CII)[B"⟩ : MethodName) (head1 (Jvm.Cond.code (⟨"java/lang/StringUTF16", "toBytes", "([CII)[B"⟩ : MethodName) jdk_52_method_14_code 5 (some (.array .byte)) :: ws) (⟨2, 1, 8, 24⟩ : Room)) (fun aa_ U => aa_ = #[(.ref b), (.int 0), (.int 1)] ∧ Z.Warmed39 U.vm ∧ U.heap = h0) (fun _ _ _ _ _ => True) (fun _ U o U' => ∃ vV LL, o = .returned vV ∧ Q_tob1 Z b kb c0 h0 n0 vV U'.heap LL ∧ FrameEnd U o U' LL (⟨2, 1, 8, 24⟩ : Room).cells (⟨2, 1, 8, 24⟩ : Room).slots) := by
  refine MetFree.of_bodySF (plainFor_of_name pn_2) hisR ?_
  intro pP eE sS mM args below meth cC s₁ Bd hml0 hP hK
  obtain ⟨rfl, hZ, hh⟩ := hP
  have hx := Bd.exec
  have hby := Bd.bytes
  have hml : cC.maxLocals = 5 := hml0
  have hown : sS.vm.findClass "java/lang/StringUTF16" = some mM.cls := findClass_of_methodNamed Bd.named
  have hnm := (name_of_methodNamed Bd.named Bd.method).1
  have X0 : Stand pP l eE (⟨2, 1, 8, 24⟩ : Room) sS mM #[(.ref b), (.int 0), (.int 1)] below meth cC s₁ [] 0 0 := Stand.of_body Bd
  have e0 : s₁.heap = h0 := by rw [← hh, Bd.state]; rfl
  have N0 := Fr.nil n0
  have pre0 : ∀ tg, Steps pP.tables eE below (s₁.setTop (mkF mM 0 #[.val (.ref b), .val (.int 0), .val (.int 1), .unset, .unset] [])) tg → Steps pP.tables eE below (s₁.setTop (entryFrame mM #[(.ref b), (.int 0), (.int 1)] 5)) tg := fun tg kg => castTop (ef_tob1 mM b (0 : Int32) (1 : Int32)) kg
  have K0 : Keep h0 h0 [] := Keep.refl _ _
  obtain ⟨_, _, ⟨T1, L1, k1, n1⟩, -, X1, ⟨Lc1, hQ1, l1, y1, z1⟩, st1⟩ := Jvm.LawKit.callS X0 hx (y := (⟨"java/lang/StringUTF16", "newBytesFor", "(I)[B"⟩ : MethodName)) hown (mvT hZ (w_91 hw)) (mvT hZ (w_92 hw)) (mvT hZ (w_74 hw)) (mvT hZ (w_93 hw)) (by decide) (backOf (W := 0) (rm_nbf l Z a0 hw [] 1 h0 n0 O0 (by decide : 1 ≤ 4)) hZ (w_93 hw) (w_74 hw) (by decide) (by decide)) (g := (mkF mM 1 #[.val (.ref b), .val (.int 0), .val (.int 1), .unset, .unset] [(.int 1)])) rfl (by rw [hml]; rfl) (argsL := [(.int 1)]) (rest := []) (lenOf pd_11 rfl) rfl (by show 2 * 0 + _ ≤ _; exact Nat.le_of_eq rfl) (hb hby dj52_14_1) (fun _ _ => ⟨rfl, e0, (by decide : 0 + 1 ≤ _), (by decide : 0 + 8 ≤ _)⟩)
  dsimp only [Pt.U, Pt.locs, Pt.cells, Pt.slots] at X1 l1 y1 z1 st1 hQ1
  subst l1 y1 z1
  obtain ⟨t_1, k_1, rfl, Nq1, Kq1, q1_0, q1_1⟩ := hQ1
  have N1 := Fr.app N0 Nq1
  have g_t_1 : n0 ≤ t_1 := Nat.le_trans (own_osz O0) q1_0
  have sz_t_1 : h0.size ≤ t_1 := Nat.le_trans K0.1 q1_0
  have K2 : Keep h0 T1.heap [] := K0.trans Kq1 all0
  have f4 := (V_b.keep Kq1 nin0)
  obtain ⟨cl3, Ar3, -, S3, Nn3, Hh3, -⟩ := id f4
  have hin3 : ¬ ((0 : Int32) < 0 ∨ cl3.slots.size ≤ ((0 : Int32)).toNatClampNeg) := inb_of S3 ⟨by decide, by decide⟩
  have hat3 : cl3.slots[((0 : Int32)).toNatClampNeg]? = some (.int c0) := Hh3.at hin3 rfl
  have f5 := (O0.keep Kq1 all0)
  obtain ⟨_, _, ⟨T6, L6, k6, n6⟩, -, X6, ⟨Lc6, hQ6, l6, y6, z6⟩, st6⟩ := Jvm.LawKit.callS X1 hx (y := (⟨"java/lang/StringUTF16", "putChar", "([BII)V"⟩ : MethodName)) hown (mvT hZ (w_98 hw)) (mvT hZ (w_99 hw)) (mvT hZ (w_74 hw)) (mvT hZ (w_100 hw)) (by decide) (backOf (W := 0) (rm_puc l Z a0 hw [] t_1 k_1 1 (List.replicate (2 * 1) (Value.int (0 : Int32))) 0 c0 T1.heap n0 f5 q1_1 (by simp : (List.replicate (2 * 1) (Value.int (0 : Int32))).length = 2 * 1) (by decide : 0 < 1 ∧ 1 ≤ 4) g_t_1 S__assertionsDisabled S_HI_BYTE_SHIFT S_LO_BYTE_SHIFT) hZ (w_100 hw) (w_74 hw) (by decide) (by decide)) (g := (mkF mM 20 #[.val (.ref b), .val (.int 0), .val (.int 1), .val (.ref t_1), .val (.int 0)] [(.int c0), (.int 0), (.ref t_1)])) rfl (by rw [hml]; rfl) (argsL := [(.ref t_1), (.int 0), (.int c0)]) (rest := []) (lenOf pd_12 rfl) rfl (by show 2 * 0 + _ ≤ _; exact Nat.le_of_eq rfl) (hb hby dj52_14_20) (fun _ _ => ⟨rfl, rfl, (by decide : 1 + 0 ≤ _), (by decide : 8 + 0 ≤ _)⟩)
  dsimp only [Pt.U, Pt.locs, Pt.cells, Pt.slots] at X6 l6 y6 z6 st6 hQ6
  subst l6 y6 z6
  obtain ⟨rfl, Nq6, Kq6, q6_0⟩ := hQ6
  have N6 := Fr.app N1 Nq6
  have K7 : Keep h0 T6.heap [] := K2.trans Kq6 (allS (Or.inr sz_t_1) all0)
  obtain ⟨fs, hr, hrun, hended, hW, hsame⟩ := X6.leave (v := some (.ref t_1)) (fun h => by rw [Bd.returns] at h; cases h)
  refine ⟨_, _, pre0 _ ?_, hrun, hended, _, _, rfl, ?_, ⟨_, rfl⟩, hW, hsame.mono (by decide) (by decide)⟩
  · refine XS.iloadN X0.here hx rfl (hb hby dj52_14_0) rfl ?_
    show Steps _ _ _ (s₁.setTop (mkF mM 1 #[.val (.ref b), .val (.int 0), .val (.int 1), .unset, .unset] [(.int 1)])) _
    refine st1 _ ?_
    show Steps _ _ _ (T1.setTop (mkF mM 4 #[.val (.ref b), .val (.int 0), .val (.int 1), .unset, .unset] [(.ref t_1)])) _
    refine XS.astoreN X1.here hx rfl (hb hby dj52_14_4) rfl rfl (l' := #[.val (.ref b), .val (.int 0), .val (.int 1), .val (.ref t_1), .unset]) rfl ?_
    show Steps _ _ _ (T1.setTop (mkF mM 5 #[.val (.ref b), .val (.int 0), .val (.int 1), .val (.ref t_1), .unset] [])) _
    refine XS.iconst X1.here hx rfl (hb hby dj52_14_5) ?_
    show Steps _ _ _ (T1.setTop (mkF mM 6 #[.val (.ref b), .val (.int 0), .val (.int 1), .val (.ref t_1), .unset] [(.int 0)])) _
    refine XS.istore X1.here hx rfl (hb hby dj52_14_6) rfl (l' := #[.val (.ref b), .val (.int 0), .val (.int 1), .val (.ref t_1), .val (.int 0)]) rfl ?_
    show Steps _ _ _ (T1.setTop (mkF mM 8 #[.val (.ref b), .val (.int 0), .val (.int 1), .val (.ref t_1), .val (.int 0)] [])) _
    refine XS.iload X1.here hx rfl (hb hby dj52_14_8) rfl ?_
    show Steps _ _ _ (T1.setTop (mkF mM 10 #[.val (.ref b), .val (.int 0), .val (.int 1), .val (.ref t_1), .val (.int 0)] [(.int 0)])) _
    refine XS.iloadN X1.here hx rfl (hb hby dj52_14_10) rfl ?_
    show Steps _ _ _ (T1.setTop (mkF mM 11 #[.val (.ref b), .val (.int 0), .val (.int 1), .val (.ref t_1), .val (.int 0)] [(.int 1), (.int 0)])) _
    refine XS.icmpNo X1.here hx rfl (hb hby dj52_14_11) rfl (tlt (by decide : (0 : Int32) < (1 : Int32))).2.1 ?_
    show Steps _ _ _ (T1.setTop (mkF mM 14 #[.val (.ref b), .val (.int 0), .val (.int 1), .val (.ref t_1), .val (.int 0)] [])) _
    refine XS.aloadN X1.here hx rfl (hb hby dj52_14_14) rfl rfl ?_
    show Steps _ _ _ (T1.setTop (mkF mM 15 #[.val (.ref b), .val (.int 0), .val (.int 1), .val (.ref t_1), .val (.int 0)] [(.ref t_1)])) _
    refine XS.iload X1.here hx rfl (hb hby dj52_14_15) rfl ?_
    show Steps _ _ _ (T1.setTop (mkF mM 17 #[.val (.ref b), .val (.int 0), .val (.int 1), .val (.ref t_1), .val (.int 0)] [(.int 0), (.ref t_1)])) _
    refine XS.aloadN X1.here hx rfl (hb hby dj52_14_17) rfl rfl ?_
    show Steps _ _ _ (T1.setTop (mkF mM 18 #[.val (.ref b), .val (.int 0), .val (.int 1), .val (.ref t_1), .val (.int 0)] [(.ref b), (.int 0), (.ref t_1)])) _
    refine XS.iloadN X1.here hx rfl (hb hby dj52_14_18) rfl ?_
    show Steps _ _ _ (T1.setTop (mkF mM 19 #[.val (.ref b), .val (.int 0), .val (.int 1), .val (.ref t_1), .val (.int 0)] [(.int 0), (.ref b), (.int 0), (.ref t_1)])) _
    refine X1.caload hx (j := (0 : Int32)) (v := (.int c0)) (Ar3.1) (State.isArrayOf_alike hZ.alike Ar3.2.1) Ar3.2.2 hin3 hat3 (g := (mkF mM 19 #[.val (.ref b), .val (.int 0), .val (.int 1), .val (.ref t_1), .val (.int 0)] [(.int 0), (.ref b), (.int 0), (.ref t_1)])) rfl rfl (hb hby dj52_14_19) _ ?_
    show Steps _ _ _ (T1.setTop (mkF mM 20 #[.val (.ref b), .val (.int 0), .val (.int 1), .val (.ref t_1), .val (.int 0)] [(.int c0), (.int 0), (.ref t_1)])) _
    refine st6 _ ?_
    show Steps _ _ _ (T6.setTop (mkF mM 23 #[.val (.ref b), .val (.int 0), .val (.int 1), .val (.ref t_1), .val (.int 0)] [])) _
    refine XS.iinc X6.here hx rfl (hb hby dj52_14_23) rfl (l' := #[.val (.ref b), .val (.int 1), .val (.int 1), .val (.ref t_1), .val (.int 0)]) rfl ?_
    show Steps _ _ _ (T6.setTop (mkF mM 26 #[.val (.ref b), .val (.int 1), .val (.int 1), .val (.ref t_1), .val (.int 0)] [])) _
    refine XS.iinc X6.here hx rfl (hb hby dj52_14_26) rfl (l' := #[.val (.ref b), .val (.int 1), .val (.int 1), .val (.ref t_1), .val (.int 1)]) rfl ?_
    show Steps _ _ _ (T6.setTop (mkF mM 29 #[.val (.ref b), .val (.int 1), .val (.int 1), .val (.ref t_1), .val (.int 1)] [])) _
    refine XS.goto X6.here hx rfl (pc0 := 29) (pc' := 8) rfl (hb hby dj52_14_29) (by decide) (by decide) ?_
    show Steps _ _ _ (T6.setTop (mkF mM 8 #[.val (.ref b), .val (.int 1), .val (.int 1), .val (.ref t_1), .val (.int 1)] [])) _
    refine XS.iload X6.here hx rfl (hb hby dj52_14_8) rfl ?_
    show Steps _ _ _ (T6.setTop (mkF mM 10 #[.val (.ref b), .val (.int 1), .val (.int 1), .val (.ref t_1), .val (.int 1)] [(.int 1)])) _
    refine XS.iloadN X6.here hx rfl (hb hby dj52_14_10) rfl ?_
    show Steps _ _ _ (T6.setTop (mkF mM 11 #[.val (.ref b), .val (.int 1), .val (.int 1), .val (.ref t_1), .val (.int 1)] [(.int 1), (.int 1)])) _
    refine XS.icmpYes X6.here hx rfl (pc0 := 11) (pc' := 32) rfl (hb hby dj52_14_11) rfl (flt (by decide : ¬ ((1 : Int32) < (1 : Int32)))).2.1 (by decide) (by decide) ?_
    show Steps _ _ _ (T6.setTop (mkF mM 32 #[.val (.ref b), .val (.int 1), .val (.int 1), .val (.ref t_1), .val (.int 1)] [])) _
    refine XS.aloadN X6.here hx rfl (hb hby dj52_14_32) rfl rfl ?_
    show Steps _ _ _ (T6.setTop (mkF mM 33 #[.val (.ref b), .val (.int 1), .val (.int 1), .val (.ref t_1), .val (.int 1)] [(.ref t_1)])) _
    jvm_step X6.here [X6.here.top, hx, (hb hby dj52_14_33), X6.method', Bd.returns, Value.isRef, FieldType.isReference]
    first | (intro acts; rw [hr _ acts rfl rfl rfl]) | rw [hr _ _ rfl rfl rfl]
    exact Steps.refl _
  · show Q_tob1 Z b kb c0 h0 n0 _ T6.heap _
    exact ⟨t_1, k_1, rfl, N6, K7, sz_t_1, (show Arv Z T6.heap t_1 k_1 .byte (Int32.ofNat (2 * 1)) (own_u16 [c0]) (.int 0) from q6_0)⟩
theorem ef_tob2 (m : MethodId) (x0 : Addr) (x1 : Int32) (x2 : Int32) : entryFrame m #[(.ref x0), (.int x1), (.int x2)] 5 = mkF m 0 #[.val (.ref x0), .val (.int x1), .val (.int x2), .unset, .unset] [] := by first | (simp [entryFrame, mkF, argsToLocals, Value.category]; done) | rfl
def Q_tob2 (Z : State) (b : Addr) (kb : ClassId) (c0 : Int32) (c1 : Int32) (h0 : Heap) (n0 : Nat) (vV : Option Value) (h : Heap) (LL : List Loc) : Prop := ∃ (t : Addr) (k : ClassId), vV = some (.ref t) ∧ Fr n0 LL ∧ Keep h0 h [] ∧ h0.size ≤ t ∧ Arv Z h t k .byte (Int32.ofNat (2 * 2)) (own_u16 [c0, c1]) (.int 0)
set_option maxRecDepth 65536 in
set_option maxHeartbeats 40000000 in
theorem rm_tob2 (l : Launch) (Z : State) (a0 : Array Value) (hw : ∀ d ∈ tables_1, d.before a0 Z = true) (ws : List Jvm.Cond) (b : Addr) (kb : ClassId) (c0 : Int32) (c1 : Int32) (h0 : Heap) (n0 : Nat) (O0 : Old Z n0 h0) (V_b : Arv Z h0 b kb .char (2 : Int32) [(.int c0), (.int c1)] (.int 0)) (S__assertionsDisabled : Sta Z Z.heap "java/lang/StringUTF16" "$assertionsDisabled" "Z" (.int 1)) (S_HI_BYTE_SHIFT : Sta Z Z.heap "java/lang/StringUTF16" "HI_BYTE_SHIFT" "I" (.int 0)) (S_LO_BYTE_SHIFT : Sta Z Z.heap "java/lang/StringUTF16" "LO_BYTE_SHIFT" "I" (.int 8)) :
    MetFree l (⟨"java/lang/StringUTF16", "toBytes", "([CII)[B"⟩ : MethodName) (head1 (Jvm.Cond.code (⟨"java/lang/StringUTF16", "toBytes", "([CII)[B"⟩ : MethodName) jdk_52_method_14_code 5 (some (.array .byte)) :: ws) (⟨2, 1, 8, 24⟩ : Room)) (fun aa_ U => aa_ = #[(.ref b), (.int 0), (.int 2)] ∧ Z.Warmed39 U.vm ∧ U.heap = h0) (fun _ _ _ _ _ => True) (fun _ U o U' => ∃ vV LL, o = .returned vV ∧ Q_tob2 Z b kb c0 c1 h0 n0 vV U'.heap LL ∧ FrameEnd U o U' LL (⟨2, 1, 8, 24⟩ : Room).cells (⟨2, 1, 8, 24⟩ : Room).slots) := by
  refine MetFree.of_bodySF (plainFor_of_name pn_2) hisR ?_
  intro pP eE sS mM args below meth cC s₁ Bd hml0 hP hK
  obtain ⟨rfl, hZ, hh⟩ := hP
  have hx := Bd.exec
  have hby := Bd.bytes
  have hml : cC.maxLocals = 5 := hml0
  have hown : sS.vm.findClass "java/lang/StringUTF16" = some mM.cls := findClass_of_methodNamed Bd.named
  have hnm := (name_of_methodNamed Bd.named Bd.method).1
  have X0 : Stand pP l eE (⟨2, 1, 8, 24⟩ : Room) sS mM #[(.ref b), (.int 0), (.int 2)] below meth cC s₁ [] 0 0 := Stand.of_body Bd
  have e0 : s₁.heap = h0 := by rw [← hh, Bd.state]; rfl
  have N0 := Fr.nil n0
  have pre0 : ∀ tg, Steps pP.tables eE below (s₁.setTop (mkF mM 0 #[.val (.ref b), .val (.int 0), .val (.int 2), .unset, .unset] [])) tg → Steps pP.tables eE below (s₁.setTop (entryFrame mM #[(.ref b), (.int 0), (.int 2)] 5)) tg := fun tg kg => castTop (ef_tob2 mM b (0 : Int32) (2 : Int32)) kg
  have K0 : Keep h0 h0 [] := Keep.refl _ _
  obtain ⟨_, _, ⟨T1, L1, k1, n1⟩, -, X1, ⟨Lc1, hQ1, l1, y1, z1⟩, st1⟩ := Jvm.LawKit.callS X0 hx (y := (⟨"java/lang/StringUTF16", "newBytesFor", "(I)[B"⟩ : MethodName)) hown (mvT hZ (w_91 hw)) (mvT hZ (w_92 hw)) (mvT hZ (w_74 hw)) (mvT hZ (w_93 hw)) (by decide) (backOf (W := 0) (rm_nbf l Z a0 hw [] 2 h0 n0 O0 (by decide : 2 ≤ 4)) hZ (w_93 hw) (w_74 hw) (by decide) (by decide)) (g := (mkF mM 1 #[.val (.ref b), .val (.int 0), .val (.int 2), .unset, .unset] [(.int 2)])) rfl (by rw [hml]; rfl) (argsL := [(.int 2)]) (rest := []) (lenOf pd_11 rfl) rfl (by show 2 * 0 + _ ≤ _; exact Nat.le_of_eq rfl) (hb hby dj52_14_1) (fun _ _ => ⟨rfl, e0, (by decide : 0 + 1 ≤ _), (by decide : 0 + 8 ≤ _)⟩)
  dsimp only [Pt.U, Pt.locs, Pt.cells, Pt.slots] at X1 l1 y1 z1 st1 hQ1
  subst l1 y1 z1
  obtain ⟨t_1, k_1, rfl, Nq1, Kq1, q1_0, q1_1⟩ := hQ1
  have N1 := Fr.app N0 Nq1
  have g_t_1 : n0 ≤ t_1 := Nat.le_trans (own_osz O0) q1_0
  have sz_t_1 : h0.size ≤ t_1 := Nat.le_trans K0.1 q1_0
  have K2 : Keep h0 T1.heap [] := K0.trans Kq1 all0
  have f4 := (V_b.keep Kq1 nin0)
  obtain ⟨cl3, Ar3, -, S3, Nn3, Hh3, -⟩ := id f4
  have hin3 : ¬ ((0 : Int32) < 0 ∨ cl3.slots.size ≤ ((0 : Int32)).toNatClampNeg) := inb_of S3 ⟨by decide, by decide⟩
  have hat3 : cl3.slots[((0 : Int32)).toNatClampNeg]? = some (.int c0) := Hh3.at hin3 rfl
  have f5 := (O0.keep Kq1 all0)
  obtain ⟨_, _, ⟨T6, L6, k6, n6⟩, -, X6, ⟨Lc6, hQ6, l6, y6, z6⟩, st6⟩ := Jvm.LawKit.callS X1 hx (y := (⟨"java/lang/StringUTF16", "putChar", "([BII)V"⟩ : MethodName)) hown (mvT hZ (w_98 hw)) (mvT hZ (w_99 hw)) (mvT hZ (w_74 hw)) (mvT hZ (w_100 hw)) (by decide) (backOf (W := 0) (rm_puc l Z a0 hw [] t_1 k_1 2 (List.replicate (2 * 2) (Value.int (0 : Int32))) 0 c0 T1.heap n0 f5 q1_1 (by simp : (List.replicate (2 * 2) (Value.int (0 : Int32))).length = 2 * 2) (by decide : 0 < 2 ∧ 2 ≤ 4) g_t_1 S__assertionsDisabled S_HI_BYTE_SHIFT S_LO_BYTE_SHIFT) hZ (w_100 hw) (w_74 hw) (by decide) (by decide)) (g := (mkF mM 20 #[.val (.ref b), .val (.int 0), .val (.int 2), .val (.ref t_1), .val (.int 0)] [(.int c0), (.int 0), (.ref t_1)])) rfl (by rw [hml]; rfl) (argsL := [(.ref t_1), (.int 0), (.int c0)]) (rest := []) (lenOf pd_12 rfl) rfl (by show 2 * 0 + _ ≤ _; exact Nat.le_of_eq rfl) (hb hby dj52_14_20) (fun _ _ => ⟨rfl, rfl, (by decide : 1 + 0 ≤ _), (by decide : 8 + 0 ≤ _)⟩)
  dsimp only [Pt.U, Pt.locs, Pt.cells, Pt.slots] at X6 l6 y6 z6 st6 hQ6
  subst l6 y6 z6
  obtain ⟨rfl, Nq6, Kq6, q6_0⟩ := hQ6
  have N6 := Fr.app N1 Nq6
  have K7 : Keep h0 T6.heap [] := K2.trans Kq6 (allS (Or.inr sz_t_1) all0)
  have f9 := (f4.keep Kq6 (ninS (Nat.ne_of_lt (Nat.lt_of_lt_of_le (V_b).lt q1_0)) nin0))
  obtain ⟨cl8, Ar8, -, S8, Nn8, Hh8, -⟩ := id f9
  have hin8 : ¬ ((1 : Int32) < 0 ∨ cl8.slots.size ≤ ((1 : Int32)).toNatClampNeg) := inb_of S8 ⟨by decide, by decide⟩
  have hat8 : cl8.slots[((1 : Int32)).toNatClampNeg]? = some (.int c1) := Hh8.at hin8 rfl
  have f10 := (f5.keep Kq6 (allS g_t_1 all0))
  obtain ⟨_, _, ⟨T11, L11, k11, n11⟩, -, X11, ⟨Lc11, hQ11, l11, y11, z11⟩, st11⟩ := Jvm.LawKit.callS X6 hx (y := (⟨"java/lang/StringUTF16", "putChar", "([BII)V"⟩ : MethodName)) hown (mvT hZ (w_98 hw)) (mvT hZ (w_99 hw)) (mvT hZ (w_74 hw)) (mvT hZ (w_100 hw)) (by decide) (backOf (W := 0) (rm_puc l Z a0 hw [] t_1 k_1 2 ((((List.replicate (2 * 2) (Value.int (0 : Int32)))).set (2 * 0) (.int (own_lo c0))).set (2 * 0 + 1) (.int (own_hi c0))) 1 c1 T6.heap n0 f10 q6_0 (by simp : ((((List.replicate (2 * 2) (Value.int (0 : Int32)))).set (2 * 0) (.int (own_lo c0))).set (2 * 0 + 1) (.int (own_hi c0))).length = 2 * 2) (by decide : 1 < 2 ∧ 2 ≤ 4) g_t_1 S__assertionsDisabled S_HI_BYTE_SHIFT S_LO_BYTE_SHIFT) hZ (w_100 hw) (w_74 hw) (by decide) (by decide)) (g := (mkF mM 20 #[.val (.ref b), .val (.int 1), .val (.int 2), .val (.ref t_1), .val (.int 1)] [(.int c1), (.int 1), (.ref t_1)])) rfl (by rw [hml]; rfl) (argsL := [(.ref t_1), (.int 1), (.int c1)]) (rest := []) (lenOf pd_12 rfl) rfl (by show 2 * 0 + _ ≤ _; exact Nat.le_of_eq rfl) (hb hby dj52_14_20) (fun _ _ => ⟨rfl, rfl, (by decide : 1 + 0 ≤ _), (by decide : 8 + 0 ≤ _)⟩)
  dsimp only [Pt.U, Pt.locs, Pt.cells, Pt.slots] at X11 l11 y11 z11 st11 hQ11
  subst l11 y11 z11
  obtain ⟨rfl, Nq11, Kq11, q11_0⟩ := hQ11
  have N11 := Fr.app N6 Nq11
  have K12 : Keep h0 T11.heap [] := K7.trans Kq11 (allS (Or.inr sz_t_1) all0)
  obtain ⟨fs, hr, hrun, hended, hW, hsame⟩ := X11.leave (v := some (.ref t_1)) (fun h => by rw [Bd.returns] at h; cases h)
  refine ⟨_, _, pre0 _ ?_, hrun, hended, _, _, rfl, ?_, ⟨_, rfl⟩, hW, hsame.mono (by decide) (by decide)⟩
  · refine XS.iloadN X0.here hx rfl (hb hby dj52_14_0) rfl ?_
    show Steps _ _ _ (s₁.setTop (mkF mM 1 #[.val (.ref b), .val (.int 0), .val (.int 2), .unset, .unset] [(.int 2)])) _
    refine st1 _ ?_
    show Steps _ _ _ (T1.setTop (mkF mM 4 #[.val (.ref b), .val (.int 0), .val (.int 2), .unset, .unset] [(.ref t_1)])) _
    refine XS.astoreN X1.here hx rfl (hb hby dj52_14_4) rfl rfl (l' := #[.val (.ref b), .val (.int 0), .val (.int 2), .val (.ref t_1), .unset]) rfl ?_
    show Steps _ _ _ (T1.setTop (mkF mM 5 #[.val (.ref b), .val (.int 0), .val (.int 2), .val (.ref t_1), .unset] [])) _
    refine XS.iconst X1.here hx rfl (hb hby dj52_14_5) ?_
    show Steps _ _ _ (T1.setTop (mkF mM 6 #[.val (.ref b), .val (.int 0), .val (.int 2), .val (.ref t_1), .unset] [(.int 0)])) _
    refine XS.istore X1.here hx rfl (hb hby dj52_14_6) rfl (l' := #[.val (.ref b), .val (.int 0), .val (.int 2), .val (.ref t_1), .val (.int 0)]) rfl ?_
    show Steps _ _ _ (T1.setTop (mkF mM 8 #[.val (.ref b), .val (.int 0), .val (.int 2), .val (.ref t_1), .val (.int 0)] [])) _
    refine XS.iload X1.here hx rfl (hb hby dj52_14_8) rfl ?_
    show Steps _ _ _ (T1.setTop (mkF mM 10 #[.val (.ref b), .val (.int 0), .val (.int 2), .val (.ref t_1), .val (.int 0)] [(.int 0)])) _
    refine XS.iloadN X1.here hx rfl (hb hby dj52_14_10) rfl ?_
    show Steps _ _ _ (T1.setTop (mkF mM 11 #[.val (.ref b), .val (.int 0), .val (.int 2), .val (.ref t_1), .val (.int 0)] [(.int 2), (.int 0)])) _
    refine XS.icmpNo X1.here hx rfl (hb hby dj52_14_11) rfl (tlt (by decide : (0 : Int32) < (2 : Int32))).2.1 ?_
    show Steps _ _ _ (T1.setTop (mkF mM 14 #[.val (.ref b), .val (.int 0), .val (.int 2), .val (.ref t_1), .val (.int 0)] [])) _
    refine XS.aloadN X1.here hx rfl (hb hby dj52_14_14) rfl rfl ?_
    show Steps _ _ _ (T1.setTop (mkF mM 15 #[.val (.ref b), .val (.int 0), .val (.int 2), .val (.ref t_1), .val (.int 0)] [(.ref t_1)])) _
    refine XS.iload X1.here hx rfl (hb hby dj52_14_15) rfl ?_
    show Steps _ _ _ (T1.setTop (mkF mM 17 #[.val (.ref b), .val (.int 0), .val (.int 2), .val (.ref t_1), .val (.int 0)] [(.int 0), (.ref t_1)])) _
    refine XS.aloadN X1.here hx rfl (hb hby dj52_14_17) rfl rfl ?_
    show Steps _ _ _ (T1.setTop (mkF mM 18 #[.val (.ref b), .val (.int 0), .val (.int 2), .val (.ref t_1), .val (.int 0)] [(.ref b), (.int 0), (.ref t_1)])) _
    refine XS.iloadN X1.here hx rfl (hb hby dj52_14_18) rfl ?_
    show Steps _ _ _ (T1.setTop (mkF mM 19 #[.val (.ref b), .val (.int 0), .val (.int 2), .val (.ref t_1), .val (.int 0)] [(.int 0), (.ref b), (.int 0), (.ref t_1)])) _
    refine X1.caload hx (j := (0 : Int32)) (v := (.int c0)) (Ar3.1) (State.isArrayOf_alike hZ.alike Ar3.2.1) Ar3.2.2 hin3 hat3 (g := (mkF mM 19 #[.val (.ref b), .val (.int 0), .val (.int 2), .val (.ref t_1), .val (.int 0)] [(.int 0), (.ref b), (.int 0), (.ref t_1)])) rfl rfl (hb hby dj52_14_19) _ ?_
    show Steps _ _ _ (T1.setTop (mkF mM 20 #[.val (.ref b), .val (.int 0), .val (.int 2), .val (.ref t_1), .val (.int 0)] [(.int c0), (.int 0), (.ref t_1)])) _
    refine st6 _ ?_
    show Steps _ _ _ (T6.setTop (mkF mM 23 #[.val (.ref b), .val (.int 0), .val (.int 2), .val (.ref t_1), .val (.int 0)] [])) _
    refine XS.iinc X6.here hx rfl (hb hby dj52_14_23) rfl (l' := #[.val (.ref b), .val (.int 1), .val (.int 2), .val (.ref t_1), .val (.int 0)]) rfl ?_
    show Steps _ _ _ (T6.setTop (mkF mM 26 #[.val (.ref b), .val (.int 1), .val (.int 2), .val (.ref t_1), .val (.int 0)] [])) _
    refine XS.iinc X6.here hx rfl (hb hby dj52_14_26) rfl (l' := #[.val (.ref b), .val (.int 1), .val (.int 2), .val (.ref t_1), .val (.int 1)]) rfl ?_
    show Steps _ _ _ (T6.setTop (mkF mM 29 #[.val (.ref b), .val (.int 1), .val (.int 2), .val (.ref t_1), .val (.int 1)] [])) _
    refine XS.goto X6.here hx rfl (pc0 := 29) (pc' := 8) rfl (hb hby dj52_14_29) (by decide) (by decide) ?_
    show Steps _ _ _ (T6.setTop (mkF mM 8 #[.val (.ref b), .val (.int 1), .val (.int 2), .val (.ref t_1), .val (.int 1)] [])) _
    refine XS.iload X6.here hx rfl (hb hby dj52_14_8) rfl ?_
    show Steps _ _ _ (T6.setTop (mkF mM 10 #[.val (.ref b), .val (.int 1), .val (.int 2), .val (.ref t_1), .val (.int 1)] [(.int 1)])) _
    refine XS.iloadN X6.here hx rfl (hb hby dj52_14_10) rfl ?_
    show Steps _ _ _ (T6.setTop (mkF mM 11 #[.val (.ref b), .val (.int 1), .val (.int 2), .val (.ref t_1), .val (.int 1)] [(.int 2), (.int 1)])) _
    refine XS.icmpNo X6.here hx rfl (hb hby dj52_14_11) rfl (tlt (by decide : (1 : Int32) < (2 : Int32))).2.1 ?_
    show Steps _ _ _ (T6.setTop (mkF mM 14 #[.val (.ref b), .val (.int 1), .val (.int 2), .val (.ref t_1), .val (.int 1)] [])) _
    refine XS.aloadN X6.here hx rfl (hb hby dj52_14_14) rfl rfl ?_
    show Steps _ _ _ (T6.setTop (mkF mM 15 #[.val (.ref b), .val (.int 1), .val (.int 2), .val (.ref t_1), .val (.int 1)] [(.ref t_1)])) _
    refine XS.iload X6.here hx rfl (hb hby dj52_14_15) rfl ?_
    show Steps _ _ _ (T6.setTop (mkF mM 17 #[.val (.ref b), .val (.int 1), .val (.int 2), .val (.ref t_1), .val (.int 1)] [(.int 1), (.ref t_1)])) _
    refine XS.aloadN X6.here hx rfl (hb hby dj52_14_17) rfl rfl ?_
    show Steps _ _ _ (T6.setTop (mkF mM 18 #[.val (.ref b), .val (.int 1), .val (.int 2), .val (.ref t_1), .val (.int 1)] [(.ref b), (.int 1), (.ref t_1)])) _
    refine XS.iloadN X6.here hx rfl (hb hby dj52_14_18) rfl ?_
    show Steps _ _ _ (T6.setTop (mkF mM 19 #[.val (.ref b), .val (.int 1), .val (.int 2), .val (.ref t_1), .val (.int 1)] [(.int 1), (.ref b), (.int 1), (.ref t_1)])) _
    refine X6.caload hx (j := (1 : Int32)) (v := (.int c1)) (Ar8.1) (State.isArrayOf_alike hZ.alike Ar8.2.1) Ar8.2.2 hin8 hat8 (g := (mkF mM 19 #[.val (.ref b), .val (.int 1), .val (.int 2), .val (.ref t_1), .val (.int 1)] [(.int 1), (.ref b), (.int 1), (.ref t_1)])) rfl rfl (hb hby dj52_14_19) _ ?_
    show Steps _ _ _ (T6.setTop (mkF mM 20 #[.val (.ref b), .val (.int 1), .val (.int 2), .val (.ref t_1), .val (.int 1)] [(.int c1), (.int 1), (.ref t_1)])) _
    refine st11 _ ?_
    show Steps _ _ _ (T11.setTop (mkF mM 23 #[.val (.ref b), .val (.int 1), .val (.int 2), .val (.ref t_1), .val (.int 1)] [])) _
    refine XS.iinc X11.here hx rfl (hb hby dj52_14_23) rfl (l' := #[.val (.ref b), .val (.int 2), .val (.int 2), .val (.ref t_1), .val (.int 1)]) rfl ?_
    show Steps _ _ _ (T11.setTop (mkF mM 26 #[.val (.ref b), .val (.int 2), .val (.int 2), .val (.ref t_1), .val (.int 1)] [])) _
    refine XS.iinc X11.here hx rfl (hb hby dj52_14_26) rfl (l' := #[.val (.ref b), .val (.int 2), .val (.int 2), .val (.ref t_1), .val (.int 2)]) rfl ?_
    show Steps _ _ _ (T11.setTop (mkF mM 29 #[.val (.ref b), .val (.int 2), .val (.int 2), .val (.ref t_1), .val (.int 2)] [])) _
    refine XS.goto X11.here hx rfl (pc0 := 29) (pc' := 8) rfl (hb hby dj52_14_29) (by decide) (by decide) ?_
    show Steps _ _ _ (T11.setTop (mkF mM 8 #[.val (.ref b), .val (.int 2), .val (.int 2), .val (.ref t_1), .val (.int 2)] [])) _
    refine XS.iload X11.here hx rfl (hb hby dj52_14_8) rfl ?_
    show Steps _ _ _ (T11.setTop (mkF mM 10 #[.val (.ref b), .val (.int 2), .val (.int 2), .val (.ref t_1), .val (.int 2)] [(.int 2)])) _
    refine XS.iloadN X11.here hx rfl (hb hby dj52_14_10) rfl ?_
    show Steps _ _ _ (T11.setTop (mkF mM 11 #[.val (.ref b), .val (.int 2), .val (.int 2), .val (.ref t_1), .val (.int 2)] [(.int 2), (.int 2)])) _
    refine XS.icmpYes X11.here hx rfl (pc0 := 11) (pc' := 32) rfl (hb hby dj52_14_11) rfl (flt (by decide : ¬ ((2 : Int32) < (2 : Int32)))).2.1 (by decide) (by decide) ?_
    show Steps _ _ _ (T11.setTop (mkF mM 32 #[.val (.ref b), .val (.int 2), .val (.int 2), .val (.ref t_1), .val (.int 2)] [])) _
    refine XS.aloadN X11.here hx rfl (hb hby dj52_14_32) rfl rfl ?_
    show Steps _ _ _ (T11.setTop (mkF mM 33 #[.val (.ref b), .val (.int 2), .val (.int 2), .val (.ref t_1), .val (.int 2)] [(.ref t_1)])) _
    jvm_step X11.here [X11.here.top, hx, (hb hby dj52_14_33), X11.method', Bd.returns, Value.isRef, FieldType.isReference]
    first | (intro acts; rw [hr _ acts rfl rfl rfl]) | rw [hr _ _ rfl rfl rfl]
    exact Steps.refl _
  · show Q_tob2 Z b kb c0 c1 h0 n0 _ T11.heap _
    exact ⟨t_1, k_1, rfl, N11, K12, sz_t_1, (show Arv Z T11.heap t_1 k_1 .byte (Int32.ofNat (2 * 2)) (own_u16 [c0, c1]) (.int 0) from q11_0)⟩
theorem ef_tob3 (m : MethodId) (x0 : Addr) (x1 : Int32) (x2 : Int32) : entryFrame m #[(.ref x0), (.int x1), (.int x2)] 5 = mkF m 0 #[.val (.ref x0), .val (.int x1), .val (.int x2), .unset, .unset] [] := by first | (simp [entryFrame, mkF, argsToLocals, Value.category]; done) | rfl
def Q_tob3 (Z : State) (b : Addr) (kb : ClassId) (c0 : Int32) (c1 : Int32) (c2 : Int32) (h0 : Heap) (n0 : Nat) (vV : Option Value) (h : Heap) (LL : List Loc) : Prop := ∃ (t : Addr) (k : ClassId), vV = some (.ref t) ∧ Fr n0 LL ∧ Keep h0 h [] ∧ h0.size ≤ t ∧ Arv Z h t k .byte (Int32.ofNat (2 * 3)) (own_u16 [c0, c1, c2]) (.int 0)
set_option maxRecDepth 65536 in
set_option maxHeartbeats 40000000 in
theorem rm_tob3 (l : Launch) (Z : State) (a0 : Array Value) (hw : ∀ d ∈ tables_1, d.before a0 Z = true) (ws : List Jvm.Cond) (b : Addr) (kb : ClassId) (c0 : Int32) (c1 : Int32) (c2 : Int32) (h0 : Heap) (n0 : Nat) (O0 : Old Z n0 h0) (V_b : Arv Z h0 b kb .char (3 : Int32) [(.int c0), (.int c1), (.int c2)] (.int 0)) (S__assertionsDisabled : Sta Z Z.heap "java/lang/StringUTF16" "$assertionsDisabled" "Z" (.int 1)) (S_HI_BYTE_SHIFT : Sta Z Z.heap "java/lang/StringUTF16" "HI_BYTE_SHIFT" "I" (.int 0)) (S_LO_BYTE_SHIFT : Sta Z Z.heap "java/lang/StringUTF16" "LO_BYTE_SHIFT" "I" (.int 8)) :
    MetFree l (⟨"java/lang/StringUTF16", "toBytes", "([CII)[B"⟩ : MethodName) (head1 (Jvm.Cond.code (⟨"java/lang/StringUTF16", "toBytes", "([CII)[B"⟩ : MethodName) jdk_52_method_14_code 5 (some (.array .byte)) :: ws) (⟨2, 1, 8, 24⟩ : Room)) (fun aa_ U => aa_ = #[(.ref b), (.int 0), (.int 3)] ∧ Z.Warmed39 U.vm ∧ U.heap = h0) (fun _ _ _ _ _ => True) (fun _ U o U' => ∃ vV LL, o = .returned vV ∧ Q_tob3 Z b kb c0 c1 c2 h0 n0 vV U'.heap LL ∧ FrameEnd U o U' LL (⟨2, 1, 8, 24⟩ : Room).cells (⟨2, 1, 8, 24⟩ : Room).slots) := by
  refine MetFree.of_bodySF (plainFor_of_name pn_2) hisR ?_
  intro pP eE sS mM args below meth cC s₁ Bd hml0 hP hK
  obtain ⟨rfl, hZ, hh⟩ := hP
  have hx := Bd.exec
  have hby := Bd.bytes
  have hml : cC.maxLocals = 5 := hml0
  have hown : sS.vm.findClass "java/lang/StringUTF16" = some mM.cls := findClass_of_methodNamed Bd.named
  have hnm := (name_of_methodNamed Bd.named Bd.method).1
  have X0 : Stand pP l eE (⟨2, 1, 8, 24⟩ : Room) sS mM #[(.ref b), (.int 0), (.int 3)] below meth cC s₁ [] 0 0 := Stand.of_body Bd
  have e0 : s₁.heap = h0 := by rw [← hh, Bd.state]; rfl
  have N0 := Fr.nil n0
  have pre0 : ∀ tg, Steps pP.tables eE below (s₁.setTop (mkF mM 0 #[.val (.ref b), .val (.int 0), .val (.int 3), .unset, .unset] [])) tg → Steps pP.tables eE below (s₁.setTop (entryFrame mM #[(.ref b), (.int 0), (.int 3)] 5)) tg := fun tg kg => castTop (ef_tob3 mM b (0 : Int32) (3 : Int32)) kg
  have K0 : Keep h0 h0 [] := Keep.refl _ _
  obtain ⟨_, _, ⟨T1, L1, k1, n1⟩, -, X1, ⟨Lc1, hQ1, l1, y1, z1⟩, st1⟩ := Jvm.LawKit.callS X0 hx (y := (⟨"java/lang/StringUTF16", "newBytesFor", "(I)[B"⟩ : MethodName)) hown (mvT hZ (w_91 hw)) (mvT hZ (w_92 hw)) (mvT hZ (w_74 hw)) (mvT hZ (w_93 hw)) (by decide) (backOf (W := 0) (rm_nbf l Z a0 hw [] 3 h0 n0 O0 (by decide : 3 ≤ 4)) hZ (w_93 hw) (w_74 hw) (by decide) (by decide)) (g := (mkF mM 1 #[.val (.ref b), .val (.int 0), .val (.int 3), .unset, .unset] [(.int 3)])) rfl (by rw [hml]; rfl) (argsL := [(.int 3)]) (rest := []) (lenOf pd_11 rfl) rfl (by show 2 * 0 + _ ≤ _; exact Nat.le_of_eq rfl) (hb hby dj52_14_1) (fun _ _ => ⟨rfl, e0, (by decide : 0 + 1 ≤ _), (by decide : 0 + 8 ≤ _)⟩)
  dsimp only [Pt.U, Pt.locs, Pt.cells, Pt.slots] at X1 l1 y1 z1 st1 hQ1
  subst l1 y1 z1
  obtain ⟨t_1, k_1, rfl, Nq1, Kq1, q1_0, q1_1⟩ := hQ1
  have N1 := Fr.app N0 Nq1
  have g_t_1 : n0 ≤ t_1 := Nat.le_trans (own_osz O0) q1_0
  have sz_t_1 : h0.size ≤ t_1 := Nat.le_trans K0.1 q1_0
  have K2 : Keep h0 T1.heap [] := K0.trans Kq1 all0
  have f4 := (V_b.keep Kq1 nin0)
  obtain ⟨cl3, Ar3, -, S3, Nn3, Hh3, -⟩ := id f4
  have hin3 : ¬ ((0 : Int32) < 0 ∨ cl3.slots.size ≤ ((0 : Int32)).toNatClampNeg) := inb_of S3 ⟨by decide, by decide⟩
  have hat3 : cl3.slots[((0 : Int32)).toNatClampNeg]? = some (.int c0) := Hh3.at hin3 rfl
  have f5 := (O0.keep Kq1 all0)
  obtain ⟨_, _, ⟨T6, L6, k6, n6⟩, -, X6, ⟨Lc6, hQ6, l6, y6, z6⟩, st6⟩ := Jvm.LawKit.callS X1 hx (y := (⟨"java/lang/StringUTF16", "putChar", "([BII)V"⟩ : MethodName)) hown (mvT hZ (w_98 hw)) (mvT hZ (w_99 hw)) (mvT hZ (w_74 hw)) (mvT hZ (w_100 hw)) (by decide) (backOf (W := 0) (rm_puc l Z a0 hw [] t_1 k_1 3 (List.replicate (2 * 3) (Value.int (0 : Int32))) 0 c0 T1.heap n0 f5 q1_1 (by simp : (List.replicate (2 * 3) (Value.int (0 : Int32))).length = 2 * 3) (by decide : 0 < 3 ∧ 3 ≤ 4) g_t_1 S__assertionsDisabled S_HI_BYTE_SHIFT S_LO_BYTE_SHIFT) hZ (w_100 hw) (w_74 hw) (by decide) (by decide)) (g := (mkF mM 20 #[.val (.ref b), .val (.int 0), .val (.int 3), .val (.ref t_1), .val (.int 0)] [(.int c0), (.int 0), (.ref t_1)])) rfl (by rw [hml]; rfl) (argsL := [(.ref t_1), (.int 0), (.int c0)]) (rest := []) (lenOf pd_12 rfl) rfl (by show 2 * 0 + _ ≤ _; exact Nat.le_of_eq rfl) (hb hby dj52_14_20) (fun _ _ => ⟨rfl, rfl, (by decide : 1 + 0 ≤ _), (by decide : 8 + 0 ≤ _)⟩)
  dsimp only [Pt.U, Pt.locs, Pt.cells, Pt.slots] at X6 l6 y6 z6 st6 hQ6
  subst l6 y6 z6
  obtain ⟨rfl, Nq6, Kq6, q6_0⟩ := hQ6
  have N6 := Fr.app N1 Nq6
  have K7 : Keep h0 T6.heap [] := K2.trans Kq6 (allS (Or.inr sz_t_1) all0)
  have f9 := (f4.keep Kq6 (ninS (Nat.ne_of_lt (Nat.lt_of_lt_of_le (V_b).lt q1_0)) nin0))
  obtain ⟨cl8, Ar8, -, S8, Nn8, Hh8, -⟩ := id f9
  have hin8 : ¬ ((1 : Int32) < 0 ∨ cl8.slots.size ≤ ((1 : Int32)).toNatClampNeg) := inb_of S8 ⟨by decide, by decide⟩
  have hat8 : cl8.slots[((1 : Int32)).toNatClampNeg]? = some (.int c1) := Hh8.at hin8 rfl
  have f10 := (f5.keep Kq6 (allS g_t_1 all0))
  obtain ⟨_, _, ⟨T11, L11, k11, n11⟩, -, X11, ⟨Lc11, hQ11, l11, y11, z11⟩, st11⟩ := Jvm.LawKit.callS X6 hx (y := (⟨"java/lang/StringUTF16", "putChar", "([BII)V"⟩ : MethodName)) hown (mvT hZ (w_98 hw)) (mvT hZ (w_99 hw)) (mvT hZ (w_74 hw)) (mvT hZ (w_100 hw)) (by decide) (backOf (W := 0) (rm_puc l Z a0 hw [] t_1 k_1 3 ((((List.replicate (2 * 3) (Value.int (0 : Int32)))).set (2 * 0) (.int (own_lo c0))).set (2 * 0 + 1) (.int (own_hi c0))) 1 c1 T6.heap n0 f10 q6_0 (by simp : ((((List.replicate (2 * 3) (Value.int (0 : Int32)))).set (2 * 0) (.int (own_lo c0))).set (2 * 0 + 1) (.int (own_hi c0))).length = 2 * 3) (by decide : 1 < 3 ∧ 3 ≤ 4) g_t_1 S__assertionsDisabled S_HI_BYTE_SHIFT S_LO_BYTE_SHIFT) hZ (w_100 hw) (w_74 hw) (by decide) (by decide)) (g := (mkF mM 20 #[.val (.ref b), .val (.int 1), .val (.int 3), .val (.ref t_1), .val (.int 1)] [(.int c1), (.int 1), (.ref t_1)])) rfl (by rw [hml]; rfl) (argsL := [(.ref t_1), (.int 1), (.int c1)]) (rest := []) (lenOf pd_12 rfl) rfl (by show 2 * 0 + _ ≤ _; exact Nat.le_of_eq rfl) (hb hby dj52_14_20) (fun _ _ => ⟨rfl, rfl, (by decide : 1 + 0 ≤ _), (by decide : 8 + 0 ≤ _)⟩)
  dsimp only [Pt.U, Pt.locs, Pt.cells, Pt.slots] at X11 l11 y11 z11 st11 hQ11
  subst l11 y11 z11
  obtain ⟨rfl, Nq11, Kq11, q11_0⟩ := hQ11
  have N11 := Fr.app N6 Nq11
  have K12 : Keep h0 T11.heap [] := K7.trans Kq11 (allS (Or.inr sz_t_1) all0)
  have f14 := (f9.keep Kq11 (ninS (Nat.ne_of_lt (Nat.lt_of_lt_of_le (V_b).lt q1_0)) nin0))
  obtain ⟨cl13, Ar13, -, S13, Nn13, Hh13, -⟩ := id f14
  have hin13 : ¬ ((2 : Int32) < 0 ∨ cl13.slots.size ≤ ((2 : Int32)).toNatClampNeg) := inb_of S13 ⟨by decide, by decide⟩
  have hat13 : cl13.slots[((2 : Int32)).toNatClampNeg]? = some (.int c2) := Hh13.at hin13 rfl
  have f15 := (f10.keep Kq11 (allS g_t_1 all0))
  obtain ⟨_, _, ⟨T16, L16, k16, n16⟩, -, X16, ⟨Lc16, hQ16, l16, y16, z16⟩, st16⟩ := Jvm.LawKit.callS X11 hx (y := (⟨"java/lang/StringUTF16", "putChar", "([BII)V"⟩ : MethodName)) hown (mvT hZ (w_98 hw)) (mvT hZ (w_99 hw)) (mvT hZ (w_74 hw)) (mvT hZ (w_100 hw)) (by decide) (backOf (W := 0) (rm_puc l Z a0 hw [] t_1 k_1 3 (((((((List.replicate (2 * 3) (Value.int (0 : Int32)))).set (2 * 0) (.int (own_lo c0))).set (2 * 0 + 1) (.int (own_hi c0)))).set (2 * 1) (.int (own_lo c1))).set (2 * 1 + 1) (.int (own_hi c1))) 2 c2 T11.heap n0 f15 q11_0 (by simp : (((((((List.replicate (2 * 3) (Value.int (0 : Int32)))).set (2 * 0) (.int (own_lo c0))).set (2 * 0 + 1) (.int (own_hi c0)))).set (2 * 1) (.int (own_lo c1))).set (2 * 1 + 1) (.int (own_hi c1))).length = 2 * 3) (by decide : 2 < 3 ∧ 3 ≤ 4) g_t_1 S__assertionsDisabled S_HI_BYTE_SHIFT S_LO_BYTE_SHIFT) hZ (w_100 hw) (w_74 hw) (by decide) (by decide)) (g := (mkF mM 20 #[.val (.ref b), .val (.int 2), .val (.int 3), .val (.ref t_1), .val (.int 2)] [(.int c2), (.int 2), (.ref t_1)])) rfl (by rw [hml]; rfl) (argsL := [(.ref t_1), (.int 2), (.int c2)]) (rest := []) (lenOf pd_12 rfl) rfl (by show 2 * 0 + _ ≤ _; exact Nat.le_of_eq rfl) (hb hby dj52_14_20) (fun _ _ => ⟨rfl, rfl, (by decide : 1 + 0 ≤ _), (by decide : 8 + 0 ≤ _)⟩)
  dsimp only [Pt.U, Pt.locs, Pt.cells, Pt.slots] at X16 l16 y16 z16 st16 hQ16
  subst l16 y16 z16
  obtain ⟨rfl, Nq16, Kq16, q16_0⟩ := hQ16
  have N16 := Fr.app N11 Nq16
  have K17 : Keep h0 T16.heap [] := K12.trans Kq16 (allS (Or.inr sz_t_1) all0)
  obtain ⟨fs, hr, hrun, hended, hW, hsame⟩ := X16.leave (v := some (.ref t_1)) (fun h => by rw [Bd.returns] at h; cases h)
  refine ⟨_, _, pre0 _ ?_, hrun, hended, _, _, rfl, ?_, ⟨_, rfl⟩, hW, hsame.mono (by decide) (by decide)⟩
  · refine XS.iloadN X0.here hx rfl (hb hby dj52_14_0) rfl ?_
    show Steps _ _ _ (s₁.setTop (mkF mM 1 #[.val (.ref b), .val (.int 0), .val (.int 3), .unset, .unset] [(.int 3)])) _
    refine st1 _ ?_
    show Steps _ _ _ (T1.setTop (mkF mM 4 #[.val (.ref b), .val (.int 0), .val (.int 3), .unset, .unset] [(.ref t_1)])) _
    refine XS.astoreN X1.here hx rfl (hb hby dj52_14_4) rfl rfl (l' := #[.val (.ref b), .val (.int 0), .val (.int 3), .val (.ref t_1), .unset]) rfl ?_
    show Steps _ _ _ (T1.setTop (mkF mM 5 #[.val (.ref b), .val (.int 0), .val (.int 3), .val (.ref t_1), .unset] [])) _
    refine XS.iconst X1.here hx rfl (hb hby dj52_14_5) ?_
    show Steps _ _ _ (T1.setTop (mkF mM 6 #[.val (.ref b), .val (.int 0), .val (.int 3), .val (.ref t_1), .unset] [(.int 0)])) _
    refine XS.istore X1.here hx rfl (hb hby dj52_14_6) rfl (l' := #[.val (.ref b), .val (.int 0), .val (.int 3), .val (.ref t_1), .val (.int 0)]) rfl ?_
    show Steps _ _ _ (T1.setTop (mkF mM 8 #[.val (.ref b), .val (.int 0), .val (.int 3), .val (.ref t_1), .val (.int 0)] [])) _
    refine XS.iload X1.here hx rfl (hb hby dj52_14_8) rfl ?_
    show Steps _ _ _ (T1.setTop (mkF mM 10 #[.val (.ref b), .val (.int 0), .val (.int 3), .val (.ref t_1), .val (.int 0)] [(.int 0)])) _
    refine XS.iloadN X1.here hx rfl (hb hby dj52_14_10) rfl ?_
    show Steps _ _ _ (T1.setTop (mkF mM 11 #[.val (.ref b), .val (.int 0), .val (.int 3), .val (.ref t_1), .val (.int 0)] [(.int 3), (.int 0)])) _
    refine XS.icmpNo X1.here hx rfl (hb hby dj52_14_11) rfl (tlt (by decide : (0 : Int32) < (3 : Int32))).2.1 ?_
    show Steps _ _ _ (T1.setTop (mkF mM 14 #[.val (.ref b), .val (.int 0), .val (.int 3), .val (.ref t_1), .val (.int 0)] [])) _
    refine XS.aloadN X1.here hx rfl (hb hby dj52_14_14) rfl rfl ?_
    show Steps _ _ _ (T1.setTop (mkF mM 15 #[.val (.ref b), .val (.int 0), .val (.int 3), .val (.ref t_1), .val (.int 0)] [(.ref t_1)])) _
    refine XS.iload X1.here hx rfl (hb hby dj52_14_15) rfl ?_
    show Steps _ _ _ (T1.setTop (mkF mM 17 #[.val (.ref b), .val (.int 0), .val (.int 3), .val (.ref t_1), .val (.int 0)] [(.int 0), (.ref t_1)])) _
    refine XS.aloadN X1.here hx rfl (hb hby dj52_14_17) rfl rfl ?_
    show Steps _ _ _ (T1.setTop (mkF mM 18 #[.val (.ref b), .val (.int 0), .val (.int 3), .val (.ref t_1), .val (.int 0)] [(.ref b), (.int 0), (.ref t_1)])) _
    refine XS.iloadN X1.here hx rfl (hb hby dj52_14_18) rfl ?_
    show Steps _ _ _ (T1.setTop (mkF mM 19 #[.val (.ref b), .val (.int 0), .val (.int 3), .val (.ref t_1), .val (.int 0)] [(.int 0), (.ref b), (.int 0), (.ref t_1)])) _
    refine X1.caload hx (j := (0 : Int32)) (v := (.int c0)) (Ar3.1) (State.isArrayOf_alike hZ.alike Ar3.2.1) Ar3.2.2 hin3 hat3 (g := (mkF mM 19 #[.val (.ref b), .val (.int 0), .val (.int 3), .val (.ref t_1), .val (.int 0)] [(.int 0), (.ref b), (.int 0), (.ref t_1)])) rfl rfl (hb hby dj52_14_19) _ ?_
    show Steps _ _ _ (T1.setTop (mkF mM 20 #[.val (.ref b), .val (.int 0), .val (.int 3), .val (.ref t_1), .val (.int 0)] [(.int c0), (.int 0), (.ref t_1)])) _
    refine st6 _ ?_
    show Steps _ _ _ (T6.setTop (mkF mM 23 #[.val (.ref b), .val (.int 0), .val (.int 3), .val (.ref t_1), .val (.int 0)] [])) _
    refine XS.iinc X6.here hx rfl (hb hby dj52_14_23) rfl (l' := #[.val (.ref b), .val (.int 1), .val (.int 3), .val (.ref t_1), .val (.int 0)]) rfl ?_
    show Steps _ _ _ (T6.setTop (mkF mM 26 #[.val (.ref b), .val (.int 1), .val (.int 3), .val (.ref t_1), .val (.int 0)] [])) _
    refine XS.iinc X6.here hx rfl (hb hby dj52_14_26) rfl (l' := #[.val (.ref b), .val (.int 1), .val (.int 3), .val (.ref t_1), .val (.int 1)]) rfl ?_
    show Steps _ _ _ (T6.setTop (mkF mM 29 #[.val (.ref b), .val (.int 1), .val (.int 3), .val (.ref t_1), .val (.int 1)] [])) _
    refine XS.goto X6.here hx rfl (pc0 := 29) (pc' := 8) rfl (hb hby dj52_14_29) (by decide) (by decide) ?_
    show Steps _ _ _ (T6.setTop (mkF mM 8 #[.val (.ref b), .val (.int 1), .val (.int 3), .val (.ref t_1), .val (.int 1)] [])) _
    refine XS.iload X6.here hx rfl (hb hby dj52_14_8) rfl ?_
    show Steps _ _ _ (T6.setTop (mkF mM 10 #[.val (.ref b), .val (.int 1), .val (.int 3), .val (.ref t_1), .val (.int 1)] [(.int 1)])) _
    refine XS.iloadN X6.here hx rfl (hb hby dj52_14_10) rfl ?_
    show Steps _ _ _ (T6.setTop (mkF mM 11 #[.val (.ref b), .val (.int 1), .val (.int 3), .val (.ref t_1), .val (.int 1)] [(.int 3), (.int 1)])) _
    refine XS.icmpNo X6.here hx rfl (hb hby dj52_14_11) rfl (tlt (by decide : (1 : Int32) < (3 : Int32))).2.1 ?_
    show Steps _ _ _ (T6.setTop (mkF mM 14 #[.val (.ref b), .val (.int 1), .val (.int 3), .val (.ref t_1), .val (.int 1)] [])) _
    refine XS.aloadN X6.here hx rfl (hb hby dj52_14_14) rfl rfl ?_
    show Steps _ _ _ (T6.setTop (mkF mM 15 #[.val (.ref b), .val (.int 1), .val (.int 3), .val (.ref t_1), .val (.int 1)] [(.ref t_1)])) _
    refine XS.iload X6.here hx rfl (hb hby dj52_14_15) rfl ?_
    show Steps _ _ _ (T6.setTop (mkF mM 17 #[.val (.ref b), .val (.int 1), .val (.int 3), .val (.ref t_1), .val (.int 1)] [(.int 1), (.ref t_1)])) _
    refine XS.aloadN X6.here hx rfl (hb hby dj52_14_17) rfl rfl ?_
    show Steps _ _ _ (T6.setTop (mkF mM 18 #[.val (.ref b), .val (.int 1), .val (.int 3), .val (.ref t_1), .val (.int 1)] [(.ref b), (.int 1), (.ref t_1)])) _
    refine XS.iloadN X6.here hx rfl (hb hby dj52_14_18) rfl ?_
    show Steps _ _ _ (T6.setTop (mkF mM 19 #[.val (.ref b), .val (.int 1), .val (.int 3), .val (.ref t_1), .val (.int 1)] [(.int 1), (.ref b), (.int 1), (.ref t_1)])) _
    refine X6.caload hx (j := (1 : Int32)) (v := (.int c1)) (Ar8.1) (State.isArrayOf_alike hZ.alike Ar8.2.1) Ar8.2.2 hin8 hat8 (g := (mkF mM 19 #[.val (.ref b), .val (.int 1), .val (.int 3), .val (.ref t_1), .val (.int 1)] [(.int 1), (.ref b), (.int 1), (.ref t_1)])) rfl rfl (hb hby dj52_14_19) _ ?_
    show Steps _ _ _ (T6.setTop (mkF mM 20 #[.val (.ref b), .val (.int 1), .val (.int 3), .val (.ref t_1), .val (.int 1)] [(.int c1), (.int 1), (.ref t_1)])) _
    refine st11 _ ?_
    show Steps _ _ _ (T11.setTop (mkF mM 23 #[.val (.ref b), .val (.int 1), .val (.int 3), .val (.ref t_1), .val (.int 1)] [])) _
    refine XS.iinc X11.here hx rfl (hb hby dj52_14_23) rfl (l' := #[.val (.ref b), .val (.int 2), .val (.int 3), .val (.ref t_1), .val (.int 1)]) rfl ?_
    show Steps _ _ _ (T11.setTop (mkF mM 26 #[.val (.ref b), .val (.int 2), .val (.int 3), .val (.ref t_1), .val (.int 1)] [])) _
    refine XS.iinc X11.here hx rfl (hb hby dj52_14_26) rfl (l' := #[.val (.ref b), .val (.int 2), .val (.int 3), .val (.ref t_1), .val (.int 2)]) rfl ?_
    show Steps _ _ _ (T11.setTop (mkF mM 29 #[.val (.ref b), .val (.int 2), .val (.int 3), .val (.ref t_1), .val (.int 2)] [])) _
    refine XS.goto X11.here hx rfl (pc0 := 29) (pc' := 8) rfl (hb hby dj52_14_29) (by decide) (by decide) ?_
    show Steps _ _ _ (T11.setTop (mkF mM 8 #[.val (.ref b), .val (.int 2), .val (.int 3), .val (.ref t_1), .val (.int 2)] [])) _
    refine XS.iload X11.here hx rfl (hb hby dj52_14_8) rfl ?_
    show Steps _ _ _ (T11.setTop (mkF mM 10 #[.val (.ref b), .val (.int 2), .val (.int 3), .val (.ref t_1), .val (.int 2)] [(.int 2)])) _
    refine XS.iloadN X11.here hx rfl (hb hby dj52_14_10) rfl ?_
    show Steps _ _ _ (T11.setTop (mkF mM 11 #[.val (.ref b), .val (.int 2), .val (.int 3), .val (.ref t_1), .val (.int 2)] [(.int 3), (.int 2)])) _
    refine XS.icmpNo X11.here hx rfl (hb hby dj52_14_11) rfl (tlt (by decide : (2 : Int32) < (3 : Int32))).2.1 ?_
    show Steps _ _ _ (T11.setTop (mkF mM 14 #[.val (.ref b), .val (.int 2), .val (.int 3), .val (.ref t_1), .val (.int 2)] [])) _
    refine XS.aloadN X11.here hx rfl (hb hby dj52_14_14) rfl rfl ?_
    show Steps _ _ _ (T11.setTop (mkF mM 15 #[.val (.ref b), .val (.int 2), .val (.int 3), .val (.ref t_1), .val (.int 2)] [(.ref t_1)])) _
    refine XS.iload X11.here hx rfl (hb hby dj52_14_15) rfl ?_
    show Steps _ _ _ (T11.setTop (mkF mM 17 #[.val (.ref b), .val (.int 2), .val (.int 3), .val (.ref t_1), .val (.int 2)] [(.int 2), (.ref t_1)])) _
    refine XS.aloadN X11.here hx rfl (hb hby dj52_14_17) rfl rfl ?_
    show Steps _ _ _ (T11.setTop (mkF mM 18 #[.val (.ref b), .val (.int 2), .val (.int 3), .val (.ref t_1), .val (.int 2)] [(.ref b), (.int 2), (.ref t_1)])) _
    refine XS.iloadN X11.here hx rfl (hb hby dj52_14_18) rfl ?_
    show Steps _ _ _ (T11.setTop (mkF mM 19 #[.val (.ref b), .val (.int 2), .val (.int 3), .val (.ref t_1), .val (.int 2)] [(.int 2), (.ref b), (.int 2), (.ref t_1)])) _
    refine X11.caload hx (j := (2 : Int32)) (v := (.int c2)) (Ar13.1) (State.isArrayOf_alike hZ.alike Ar13.2.1) Ar13.2.2 hin13 hat13 (g := (mkF mM 19 #[.val (.ref b), .val (.int 2), .val (.int 3), .val (.ref t_1), .val (.int 2)] [(.int 2), (.ref b), (.int 2), (.ref t_1)])) rfl rfl (hb hby dj52_14_19) _ ?_
    show Steps _ _ _ (T11.setTop (mkF mM 20 #[.val (.ref b), .val (.int 2), .val (.int 3), .val (.ref t_1), .val (.int 2)] [(.int c2), (.int 2), (.ref t_1)])) _
    refine st16 _ ?_
    show Steps _ _ _ (T16.setTop (mkF mM 23 #[.val (.ref b), .val (.int 2), .val (.int 3), .val (.ref t_1), .val (.int 2)] [])) _
    refine XS.iinc X16.here hx rfl (hb hby dj52_14_23) rfl (l' := #[.val (.ref b), .val (.int 3), .val (.int 3), .val (.ref t_1), .val (.int 2)]) rfl ?_
    show Steps _ _ _ (T16.setTop (mkF mM 26 #[.val (.ref b), .val (.int 3), .val (.int 3), .val (.ref t_1), .val (.int 2)] [])) _
    refine XS.iinc X16.here hx rfl (hb hby dj52_14_26) rfl (l' := #[.val (.ref b), .val (.int 3), .val (.int 3), .val (.ref t_1), .val (.int 3)]) rfl ?_
    show Steps _ _ _ (T16.setTop (mkF mM 29 #[.val (.ref b), .val (.int 3), .val (.int 3), .val (.ref t_1), .val (.int 3)] [])) _
    refine XS.goto X16.here hx rfl (pc0 := 29) (pc' := 8) rfl (hb hby dj52_14_29) (by decide) (by decide) ?_
    show Steps _ _ _ (T16.setTop (mkF mM 8 #[.val (.ref b), .val (.int 3), .val (.int 3), .val (.ref t_1), .val (.int 3)] [])) _
    refine XS.iload X16.here hx rfl (hb hby dj52_14_8) rfl ?_
    show Steps _ _ _ (T16.setTop (mkF mM 10 #[.val (.ref b), .val (.int 3), .val (.int 3), .val (.ref t_1), .val (.int 3)] [(.int 3)])) _
    refine XS.iloadN X16.here hx rfl (hb hby dj52_14_10) rfl ?_
    show Steps _ _ _ (T16.setTop (mkF mM 11 #[.val (.ref b), .val (.int 3), .val (.int 3), .val (.ref t_1), .val (.int 3)] [(.int 3), (.int 3)])) _
    refine XS.icmpYes X16.here hx rfl (pc0 := 11) (pc' := 32) rfl (hb hby dj52_14_11) rfl (flt (by decide : ¬ ((3 : Int32) < (3 : Int32)))).2.1 (by decide) (by decide) ?_
    show Steps _ _ _ (T16.setTop (mkF mM 32 #[.val (.ref b), .val (.int 3), .val (.int 3), .val (.ref t_1), .val (.int 3)] [])) _
    refine XS.aloadN X16.here hx rfl (hb hby dj52_14_32) rfl rfl ?_
    show Steps _ _ _ (T16.setTop (mkF mM 33 #[.val (.ref b), .val (.int 3), .val (.int 3), .val (.ref t_1), .val (.int 3)] [(.ref t_1)])) _
    jvm_step X16.here [X16.here.top, hx, (hb hby dj52_14_33), X16.method', Bd.returns, Value.isRef, FieldType.isReference]
    first | (intro acts; rw [hr _ acts rfl rfl rfl]) | rw [hr _ _ rfl rfl rfl]
    exact Steps.refl _
  · show Q_tob3 Z b kb c0 c1 c2 h0 n0 _ T16.heap _
    exact ⟨t_1, k_1, rfl, N16, K17, sz_t_1, (show Arv Z T16.heap t_1 k_1 .byte (Int32.ofNat (2 * 3)) (own_u16 [c0, c1, c2]) (.int 0) from q16_0)⟩
theorem ef_tob4 (m : MethodId) (x0 : Addr) (x1 : Int32) (x2 : Int32) : entryFrame m #[(.ref x0), (.int x1), (.int x2)] 5 = mkF m 0 #[.val (.ref x0), .val (.int x1), .val (.int x2), .unset, .unset] [] := by first | (simp [entryFrame, mkF, argsToLocals, Value.category]; done) | rfl
def Q_tob4 (Z : State) (b : Addr) (kb : ClassId) (c0 : Int32) (c1 : Int32) (c2 : Int32) (c3 : Int32) (h0 : Heap) (n0 : Nat) (vV : Option Value) (h : Heap) (LL : List Loc) : Prop := ∃ (t : Addr) (k : ClassId), vV = some (.ref t) ∧ Fr n0 LL ∧ Keep h0 h [] ∧ h0.size ≤ t ∧ Arv Z h t k .byte (Int32.ofNat (2 * 4)) (own_u16 [c0, c1, c2, c3]) (.int 0)
set_option maxRecDepth 65536 in
set_option maxHeartbeats 40000000 in
theorem rm_tob4 (l : Launch) (Z : State) (a0 : Array Value) (hw : ∀ d ∈ tables_1, d.before a0 Z = true) (ws : List Jvm.Cond) (b : Addr) (kb : ClassId) (c0 : Int32) (c1 : Int32) (c2 : Int32) (c3 : Int32) (h0 : Heap) (n0 : Nat) (O0 : Old Z n0 h0) (V_b : Arv Z h0 b kb .char (4 : Int32) [(.int c0), (.int c1), (.int c2), (.int c3)] (.int 0)) (S__assertionsDisabled : Sta Z Z.heap "java/lang/StringUTF16" "$assertionsDisabled" "Z" (.int 1)) (S_HI_BYTE_SHIFT : Sta Z Z.heap "java/lang/StringUTF16" "HI_BYTE_SHIFT" "I" (.int 0)) (S_LO_BYTE_SHIFT : Sta Z Z.heap "java/lang/StringUTF16" "LO_BYTE_SHIFT" "I" (.int 8)) :
    MetFree l (⟨"java/lang/StringUTF16", "toBytes", "([CII)[B"⟩ : MethodName) (head1 (Jvm.Cond.code (⟨"java/lang/StringUTF16", "toBytes", "([CII)[B"⟩ : MethodName) jdk_52_method_14_code 5 (some (.array .byte)) :: ws) (⟨2, 1, 8, 24⟩ : Room)) (fun aa_ U => aa_ = #[(.ref b), (.int 0), (.int 4)] ∧ Z.Warmed39 U.vm ∧ U.heap = h0) (fun _ _ _ _ _ => True) (fun _ U o U' => ∃ vV LL, o = .returned vV ∧ Q_tob4 Z b kb c0 c1 c2 c3 h0 n0 vV U'.heap LL ∧ FrameEnd U o U' LL (⟨2, 1, 8, 24⟩ : Room).cells (⟨2, 1, 8, 24⟩ : Room).slots) := by
  refine MetFree.of_bodySF (plainFor_of_name pn_2) hisR ?_
  intro pP eE sS mM args below meth cC s₁ Bd hml0 hP hK
  obtain ⟨rfl, hZ, hh⟩ := hP
  have hx := Bd.exec
  have hby := Bd.bytes
  have hml : cC.maxLocals = 5 := hml0
  have hown : sS.vm.findClass "java/lang/StringUTF16" = some mM.cls := findClass_of_methodNamed Bd.named
  have hnm := (name_of_methodNamed Bd.named Bd.method).1
  have X0 : Stand pP l eE (⟨2, 1, 8, 24⟩ : Room) sS mM #[(.ref b), (.int 0), (.int 4)] below meth cC s₁ [] 0 0 := Stand.of_body Bd
  have e0 : s₁.heap = h0 := by rw [← hh, Bd.state]; rfl
  have N0 := Fr.nil n0
  have pre0 : ∀ tg, Steps pP.tables eE below (s₁.setTop (mkF mM 0 #[.val (.ref b), .val (.int 0), .val (.int 4), .unset, .unset] [])) tg → Steps pP.tables eE below (s₁.setTop (entryFrame mM #[(.ref b), (.int 0), (.int 4)] 5)) tg := fun tg kg => castTop (ef_tob4 mM b (0 : Int32) (4 : Int32)) kg
  have K0 : Keep h0 h0 [] := Keep.refl _ _
  obtain ⟨_, _, ⟨T1, L1, k1, n1⟩, -, X1, ⟨Lc1, hQ1, l1, y1, z1⟩, st1⟩ := Jvm.LawKit.callS X0 hx (y := (⟨"java/lang/StringUTF16", "newBytesFor", "(I)[B"⟩ : MethodName)) hown (mvT hZ (w_91 hw)) (mvT hZ (w_92 hw)) (mvT hZ (w_74 hw)) (mvT hZ (w_93 hw)) (by decide) (backOf (W := 0) (rm_nbf l Z a0 hw [] 4 h0 n0 O0 (by decide : 4 ≤ 4)) hZ (w_93 hw) (w_74 hw) (by decide) (by decide)) (g := (mkF mM 1 #[.val (.ref b), .val (.int 0), .val (.int 4), .unset, .unset] [(.int 4)])) rfl (by rw [hml]; rfl) (argsL := [(.int 4)]) (rest := []) (lenOf pd_11 rfl) rfl (by show 2 * 0 + _ ≤ _; exact Nat.le_of_eq rfl) (hb hby dj52_14_1) (fun _ _ => ⟨rfl, e0, (by decide : 0 + 1 ≤ _), (by decide : 0 + 8 ≤ _)⟩)
  dsimp only [Pt.U, Pt.locs, Pt.cells, Pt.slots] at X1 l1 y1 z1 st1 hQ1
  subst l1 y1 z1
  obtain ⟨t_1, k_1, rfl, Nq1, Kq1, q1_0, q1_1⟩ := hQ1
  have N1 := Fr.app N0 Nq1
  have g_t_1 : n0 ≤ t_1 := Nat.le_trans (own_osz O0) q1_0
  have sz_t_1 : h0.size ≤ t_1 := Nat.le_trans K0.1 q1_0
  have K2 : Keep h0 T1.heap [] := K0.trans Kq1 all0
  have f4 := (V_b.keep Kq1 nin0)
  obtain ⟨cl3, Ar3, -, S3, Nn3, Hh3, -⟩ := id f4
  have hin3 : ¬ ((0 : Int32) < 0 ∨ cl3.slots.size ≤ ((0 : Int32)).toNatClampNeg) := inb_of S3 ⟨by decide, by decide⟩
  have hat3 : cl3.slots[((0 : Int32)).toNatClampNeg]? = some (.int c0) := Hh3.at hin3 rfl
  have f5 := (O0.keep Kq1 all0)
  obtain ⟨_, _, ⟨T6, L6, k6, n6⟩, -, X6, ⟨Lc6, hQ6, l6, y6, z6⟩, st6⟩ := Jvm.LawKit.callS X1 hx (y := (⟨"java/lang/StringUTF16", "putChar", "([BII)V"⟩ : MethodName)) hown (mvT hZ (w_98 hw)) (mvT hZ (w_99 hw)) (mvT hZ (w_74 hw)) (mvT hZ (w_100 hw)) (by decide) (backOf (W := 0) (rm_puc l Z a0 hw [] t_1 k_1 4 (List.replicate (2 * 4) (Value.int (0 : Int32))) 0 c0 T1.heap n0 f5 q1_1 (by simp : (List.replicate (2 * 4) (Value.int (0 : Int32))).length = 2 * 4) (by decide : 0 < 4 ∧ 4 ≤ 4) g_t_1 S__assertionsDisabled S_HI_BYTE_SHIFT S_LO_BYTE_SHIFT) hZ (w_100 hw) (w_74 hw) (by decide) (by decide)) (g := (mkF mM 20 #[.val (.ref b), .val (.int 0), .val (.int 4), .val (.ref t_1), .val (.int 0)] [(.int c0), (.int 0), (.ref t_1)])) rfl (by rw [hml]; rfl) (argsL := [(.ref t_1), (.int 0), (.int c0)]) (rest := []) (lenOf pd_12 rfl) rfl (by show 2 * 0 + _ ≤ _; exact Nat.le_of_eq rfl) (hb hby dj52_14_20) (fun _ _ => ⟨rfl, rfl, (by decide : 1 + 0 ≤ _), (by decide : 8 + 0 ≤ _)⟩)
  dsimp only [Pt.U, Pt.locs, Pt.cells, Pt.slots] at X6 l6 y6 z6 st6 hQ6
  subst l6 y6 z6
  obtain ⟨rfl, Nq6, Kq6, q6_0⟩ := hQ6
  have N6 := Fr.app N1 Nq6
  have K7 : Keep h0 T6.heap [] := K2.trans Kq6 (allS (Or.inr sz_t_1) all0)
  have f9 := (f4.keep Kq6 (ninS (Nat.ne_of_lt (Nat.lt_of_lt_of_le (V_b).lt q1_0)) nin0))
  obtain ⟨cl8, Ar8, -, S8, Nn8, Hh8, -⟩ := id f9
  have hin8 : ¬ ((1 : Int32) < 0 ∨ cl8.slots.size ≤ ((1 : Int32)).toNatClampNeg) := inb_of S8 ⟨by decide, by decide⟩
  have hat8 : cl8.slots[((1 : Int32)).toNatClampNeg]? = some (.int c1) := Hh8.at hin8 rfl
  have f10 := (f5.keep Kq6 (allS g_t_1 all0))
  obtain ⟨_, _, ⟨T11, L11, k11, n11⟩, -, X11, ⟨Lc11, hQ11, l11, y11, z11⟩, st11⟩ := Jvm.LawKit.callS X6 hx (y := (⟨"java/lang/StringUTF16", "putChar", "([BII)V"⟩ : MethodName)) hown (mvT hZ (w_98 hw)) (mvT hZ (w_99 hw)) (mvT hZ (w_74 hw)) (mvT hZ (w_100 hw)) (by decide) (backOf (W := 0) (rm_puc l Z a0 hw [] t_1 k_1 4 ((((List.replicate (2 * 4) (Value.int (0 : Int32)))).set (2 * 0) (.int (own_lo c0))).set (2 * 0 + 1) (.int (own_hi c0))) 1 c1 T6.heap n0 f10 q6_0 (by simp : ((((List.replicate (2 * 4) (Value.int (0 : Int32)))).set (2 * 0) (.int (own_lo c0))).set (2 * 0 + 1) (.int (own_hi c0))).length = 2 * 4) (by decide : 1 < 4 ∧ 4 ≤ 4) g_t_1 S__assertionsDisabled S_HI_BYTE_SHIFT S_LO_BYTE_SHIFT) hZ (w_100 hw) (w_74 hw) (by decide) (by decide)) (g := (mkF mM 20 #[.val (.ref b), .val (.int 1), .val (.int 4), .val (.ref t_1), .val (.int 1)] [(.int c1), (.int 1), (.ref t_1)])) rfl (by rw [hml]; rfl) (argsL := [(.ref t_1), (.int 1), (.int c1)]) (rest := []) (lenOf pd_12 rfl) rfl (by show 2 * 0 + _ ≤ _; exact Nat.le_of_eq rfl) (hb hby dj52_14_20) (fun _ _ => ⟨rfl, rfl, (by decide : 1 + 0 ≤ _), (by decide : 8 + 0 ≤ _)⟩)
  dsimp only [Pt.U, Pt.locs, Pt.cells, Pt.slots] at X11 l11 y11 z11 st11 hQ11
  subst l11 y11 z11
  obtain ⟨rfl, Nq11, Kq11, q11_0⟩ := hQ11
  have N11 := Fr.app N6 Nq11
  have K12 : Keep h0 T11.heap [] := K7.trans Kq11 (allS (Or.inr sz_t_1) all0)
  have f14 := (f9.keep Kq11 (ninS (Nat.ne_of_lt (Nat.lt_of_lt_of_le (V_b).lt q1_0)) nin0))
  obtain ⟨cl13, Ar13, -, S13, Nn13, Hh13, -⟩ := id f14
  have hin13 : ¬ ((2 : Int32) < 0 ∨ cl13.slots.size ≤ ((2 : Int32)).toNatClampNeg) := inb_of S13 ⟨by decide, by decide⟩
  have hat13 : cl13.slots[((2 : Int32)).toNatClampNeg]? = some (.int c2) := Hh13.at hin13 rfl
  have f15 := (f10.keep Kq11 (allS g_t_1 all0))
  obtain ⟨_, _, ⟨T16, L16, k16, n16⟩, -, X16, ⟨Lc16, hQ16, l16, y16, z16⟩, st16⟩ := Jvm.LawKit.callS X11 hx (y := (⟨"java/lang/StringUTF16", "putChar", "([BII)V"⟩ : MethodName)) hown (mvT hZ (w_98 hw)) (mvT hZ (w_99 hw)) (mvT hZ (w_74 hw)) (mvT hZ (w_100 hw)) (by decide) (backOf (W := 0) (rm_puc l Z a0 hw [] t_1 k_1 4 (((((((List.replicate (2 * 4) (Value.int (0 : Int32)))).set (2 * 0) (.int (own_lo c0))).set (2 * 0 + 1) (.int (own_hi c0)))).set (2 * 1) (.int (own_lo c1))).set (2 * 1 + 1) (.int (own_hi c1))) 2 c2 T11.heap n0 f15 q11_0 (by simp : (((((((List.replicate (2 * 4) (Value.int (0 : Int32)))).set (2 * 0) (.int (own_lo c0))).set (2 * 0 + 1) (.int (own_hi c0)))).set (2 * 1) (.int (own_lo c1))).set (2 * 1 + 1) (.int (own_hi c1))).length = 2 * 4) (by decide : 2 < 4 ∧ 4 ≤ 4) g_t_1 S__assertionsDisabled S_HI_BYTE_SHIFT S_LO_BYTE_SHIFT) hZ (w_100 hw) (w_74 hw) (by decide) (by decide)) (g := (mkF mM 20 #[.val (.ref b), .val (.int 2), .val (.int 4), .val (.ref t_1), .val (.int 2)] [(.int c2), (.int 2), (.ref t_1)])) rfl (by rw [hml]; rfl) (argsL := [(.ref t_1), (.int 2), (.int c2)]) (rest := []) (lenOf pd_12 rfl) rfl (by show 2 * 0 + _ ≤ _; exact Nat.le_of_eq rfl) (hb hby dj52_14_20) (fun _ _ => ⟨rfl, rfl, (by decide : 1 + 0 ≤ _), (by decide : 8 + 0 ≤ _)⟩)
  dsimp only [Pt.U, Pt.locs, Pt.cells, Pt.slots] at X16 l16 y16 z16 st16 hQ16
  subst l16 y16 z16
  obtain ⟨rfl, Nq16, Kq16, q16_0⟩ := hQ16
  have N16 := Fr.app N11 Nq16
  have K17 : Keep h0 T16.heap [] := K12.trans Kq16 (allS (Or.inr sz_t_1) all0)
  have f19 := (f14.keep Kq16 (ninS (Nat.ne_of_lt (Nat.lt_of_lt_of_le (V_b).lt q1_0)) nin0))
  obtain ⟨cl18, Ar18, -, S18, Nn18, Hh18, -⟩ := id f19
  have hin18 : ¬ ((3 : Int32) < 0 ∨ cl18.slots.size ≤ ((3 : Int32)).toNatClampNeg) := inb_of S18 ⟨by decide, by decide⟩
  have hat18 : cl18.slots[((3 : Int32)).toNatClampNeg]? = some (.int c3) := Hh18.at hin18 rfl
  have f20 := (f15.keep Kq16 (allS g_t_1 all0))
  obtain ⟨_, _, ⟨T21, L21, k21, n21⟩, -, X21, ⟨Lc21, hQ21, l21, y21, z21⟩, st21⟩ := Jvm.LawKit.callS X16 hx (y := (⟨"java/lang/StringUTF16", "putChar", "([BII)V"⟩ : MethodName)) hown (mvT hZ (w_98 hw)) (mvT hZ (w_99 hw)) (mvT hZ (w_74 hw)) (mvT hZ (w_100 hw)) (by decide) (backOf (W := 0) (rm_puc l Z a0 hw [] t_1 k_1 4 ((((((((((List.replicate (2 * 4) (Value.int (0 : Int32)))).set (2 * 0) (.int (own_lo c0))).set (2 * 0 + 1) (.int (own_hi c0)))).set (2 * 1) (.int (own_lo c1))).set (2 * 1 + 1) (.int (own_hi c1)))).set (2 * 2) (.int (own_lo c2))).set (2 * 2 + 1) (.int (own_hi c2))) 3 c3 T16.heap n0 f20 q16_0 (by simp : ((((((((((List.replicate (2 * 4) (Value.int (0 : Int32)))).set (2 * 0) (.int (own_lo c0))).set (2 * 0 + 1) (.int (own_hi c0)))).set (2 * 1) (.int (own_lo c1))).set (2 * 1 + 1) (.int (own_hi c1)))).set (2 * 2) (.int (own_lo c2))).set (2 * 2 + 1) (.int (own_hi c2))).length = 2 * 4) (by decide : 3 < 4 ∧ 4 ≤ 4) g_t_1 S__assertionsDisabled S_HI_BYTE_SHIFT S_LO_BYTE_SHIFT) hZ (w_100 hw) (w_74 hw) (by decide) (by decide)) (g := (mkF mM 20 #[.val (.ref b), .val (.int 3), .val (.int 4), .val (.ref t_1), .val (.int 3)] [(.int c3), (.int 3), (.ref t_1)])) rfl (by rw [hml]; rfl) (argsL := [(.ref t_1), (.int 3), (.int c3)]) (rest := []) (lenOf pd_12 rfl) rfl (by show 2 * 0 + _ ≤ _; exact Nat.le_of_eq rfl) (hb hby dj52_14_20) (fun _ _ => ⟨rfl, rfl, (by decide : 1 + 0 ≤ _), (by decide : 8 + 0 ≤ _)⟩)
  dsimp only [Pt.U, Pt.locs, Pt.cells, Pt.slots] at X21 l21 y21 z21 st21 hQ21
  subst l21 y21 z21
  obtain ⟨rfl, Nq21, Kq21, q21_0⟩ := hQ21
  have N21 := Fr.app N16 Nq21
  have K22 : Keep h0 T21.heap [] := K17.trans Kq21 (allS (Or.inr sz_t_1) all0)
  obtain ⟨fs, hr, hrun, hended, hW, hsame⟩ := X21.leave (v := some (.ref t_1)) (fun h => by rw [Bd.returns] at h; cases h)
  refine ⟨_, _, pre0 _ ?_, hrun, hended, _, _, rfl, ?_, ⟨_, rfl⟩, hW, hsame.mono (by decide) (by decide)⟩
  · refine XS.iloadN X0.here hx rfl (hb hby dj52_14_0) rfl ?_
    show Steps _ _ _ (s₁.setTop (mkF mM 1 #[.val (.ref b), .val (.int 0), .val (.int 4), .unset, .unset] [(.int 4)])) _
    refine st1 _ ?_
    show Steps _ _ _ (T1.setTop (mkF mM 4 #[.val (.ref b), .val (.int 0), .val (.int 4), .unset, .unset] [(.ref t_1)])) _
    refine XS.astoreN X1.here hx rfl (hb hby dj52_14_4) rfl rfl (l' := #[.val (.ref b), .val (.int 0), .val (.int 4), .val (.ref t_1), .unset]) rfl ?_
    show Steps _ _ _ (T1.setTop (mkF mM 5 #[.val (.ref b), .val (.int 0), .val (.int 4), .val (.ref t_1), .unset] [])) _
    refine XS.iconst X1.here hx rfl (hb hby dj52_14_5) ?_
    show Steps _ _ _ (T1.setTop (mkF mM 6 #[.val (.ref b), .val (.int 0), .val (.int 4), .val (.ref t_1), .unset] [(.int 0)])) _
    refine XS.istore X1.here hx rfl (hb hby dj52_14_6) rfl (l' := #[.val (.ref b), .val (.int 0), .val (.int 4), .val (.ref t_1), .val (.int 0)]) rfl ?_
    show Steps _ _ _ (T1.setTop (mkF mM 8 #[.val (.ref b), .val (.int 0), .val (.int 4), .val (.ref t_1), .val (.int 0)] [])) _
    refine XS.iload X1.here hx rfl (hb hby dj52_14_8) rfl ?_
    show Steps _ _ _ (T1.setTop (mkF mM 10 #[.val (.ref b), .val (.int 0), .val (.int 4), .val (.ref t_1), .val (.int 0)] [(.int 0)])) _
    refine XS.iloadN X1.here hx rfl (hb hby dj52_14_10) rfl ?_
    show Steps _ _ _ (T1.setTop (mkF mM 11 #[.val (.ref b), .val (.int 0), .val (.int 4), .val (.ref t_1), .val (.int 0)] [(.int 4), (.int 0)])) _
    refine XS.icmpNo X1.here hx rfl (hb hby dj52_14_11) rfl (tlt (by decide : (0 : Int32) < (4 : Int32))).2.1 ?_
    show Steps _ _ _ (T1.setTop (mkF mM 14 #[.val (.ref b), .val (.int 0), .val (.int 4), .val (.ref t_1), .val (.int 0)] [])) _
    refine XS.aloadN X1.here hx rfl (hb hby dj52_14_14) rfl rfl ?_
    show Steps _ _ _ (T1.setTop (mkF mM 15 #[.val (.ref b), .val (.int 0), .val (.int 4), .val (.ref t_1), .val (.int 0)] [(.ref t_1)])) _
    refine XS.iload X1.here hx rfl (hb hby dj52_14_15) rfl ?_
    show Steps _ _ _ (T1.setTop (mkF mM 17 #[.val (.ref b), .val (.int 0), .val (.int 4), .val (.ref t_1), .val (.int 0)] [(.int 0), (.ref t_1)])) _
    refine XS.aloadN X1.here hx rfl (hb hby dj52_14_17) rfl rfl ?_
    show Steps _ _ _ (T1.setTop (mkF mM 18 #[.val (.ref b), .val (.int 0), .val (.int 4), .val (.ref t_1), .val (.int 0)] [(.ref b), (.int 0), (.ref t_1)])) _
    refine XS.iloadN X1.here hx rfl (hb hby dj52_14_18) rfl ?_
    show Steps _ _ _ (T1.setTop (mkF mM 19 #[.val (.ref b), .val (.int 0), .val (.int 4), .val (.ref t_1), .val (.int 0)] [(.int 0), (.ref b), (.int 0), (.ref t_1)])) _
    refine X1.caload hx (j := (0 : Int32)) (v := (.int c0)) (Ar3.1) (State.isArrayOf_alike hZ.alike Ar3.2.1) Ar3.2.2 hin3 hat3 (g := (mkF mM 19 #[.val (.ref b), .val (.int 0), .val (.int 4), .val (.ref t_1), .val (.int 0)] [(.int 0), (.ref b), (.int 0), (.ref t_1)])) rfl rfl (hb hby dj52_14_19) _ ?_
    show Steps _ _ _ (T1.setTop (mkF mM 20 #[.val (.ref b), .val (.int 0), .val (.int 4), .val (.ref t_1), .val (.int 0)] [(.int c0), (.int 0), (.ref t_1)])) _
    refine st6 _ ?_
    show Steps _ _ _ (T6.setTop (mkF mM 23 #[.val (.ref b), .val (.int 0), .val (.int 4), .val (.ref t_1), .val (.int 0)] [])) _
    refine XS.iinc X6.here hx rfl (hb hby dj52_14_23) rfl (l' := #[.val (.ref b), .val (.int 1), .val (.int 4), .val (.ref t_1), .val (.int 0)]) rfl ?_
    show Steps _ _ _ (T6.setTop (mkF mM 26 #[.val (.ref b), .val (.int 1), .val (.int 4), .val (.ref t_1), .val (.int 0)] [])) _
    refine XS.iinc X6.here hx rfl (hb hby dj52_14_26) rfl (l' := #[.val (.ref b), .val (.int 1), .val (.int 4), .val (.ref t_1), .val (.int 1)]) rfl ?_
    show Steps _ _ _ (T6.setTop (mkF mM 29 #[.val (.ref b), .val (.int 1), .val (.int 4), .val (.ref t_1), .val (.int 1)] [])) _
    refine XS.goto X6.here hx rfl (pc0 := 29) (pc' := 8) rfl (hb hby dj52_14_29) (by decide) (by decide) ?_
    show Steps _ _ _ (T6.setTop (mkF mM 8 #[.val (.ref b), .val (.int 1), .val (.int 4), .val (.ref t_1), .val (.int 1)] [])) _
    refine XS.iload X6.here hx rfl (hb hby dj52_14_8) rfl ?_
    show Steps _ _ _ (T6.setTop (mkF mM 10 #[.val (.ref b), .val (.int 1), .val (.int 4), .val (.ref t_1), .val (.int 1)] [(.int 1)])) _
    refine XS.iloadN X6.here hx rfl (hb hby dj52_14_10) rfl ?_
    show Steps _ _ _ (T6.setTop (mkF mM 11 #[.val (.ref b), .val (.int 1), .val (.int 4), .val (.ref t_1), .val (.int 1)] [(.int 4), (.int 1)])) _
    refine XS.icmpNo X6.here hx rfl (hb hby dj52_14_11) rfl (tlt (by decide : (1 : Int32) < (4 : Int32))).2.1 ?_
    show Steps _ _ _ (T6.setTop (mkF mM 14 #[.val (.ref b), .val (.int 1), .val (.int 4), .val (.ref t_1), .val (.int 1)] [])) _
    refine XS.aloadN X6.here hx rfl (hb hby dj52_14_14) rfl rfl ?_
    show Steps _ _ _ (T6.setTop (mkF mM 15 #[.val (.ref b), .val (.int 1), .val (.int 4), .val (.ref t_1), .val (.int 1)] [(.ref t_1)])) _
    refine XS.iload X6.here hx rfl (hb hby dj52_14_15) rfl ?_
    show Steps _ _ _ (T6.setTop (mkF mM 17 #[.val (.ref b), .val (.int 1), .val (.int 4), .val (.ref t_1), .val (.int 1)] [(.int 1), (.ref t_1)])) _
    refine XS.aloadN X6.here hx rfl (hb hby dj52_14_17) rfl rfl ?_
    show Steps _ _ _ (T6.setTop (mkF mM 18 #[.val (.ref b), .val (.int 1), .val (.int 4), .val (.ref t_1), .val (.int 1)] [(.ref b), (.int 1), (.ref t_1)])) _
    refine XS.iloadN X6.here hx rfl (hb hby dj52_14_18) rfl ?_
    show Steps _ _ _ (T6.setTop (mkF mM 19 #[.val (.ref b), .val (.int 1), .val (.int 4), .val (.ref t_1), .val (.int 1)] [(.int 1), (.ref b), (.int 1), (.ref t_1)])) _
    refine X6.caload hx (j := (1 : Int32)) (v := (.int c1)) (Ar8.1) (State.isArrayOf_alike hZ.alike Ar8.2.1) Ar8.2.2 hin8 hat8 (g := (mkF mM 19 #[.val (.ref b), .val (.int 1), .val (.int 4), .val (.ref t_1), .val (.int 1)] [(.int 1), (.ref b), (.int 1), (.ref t_1)])) rfl rfl (hb hby dj52_14_19) _ ?_
    show Steps _ _ _ (T6.setTop (mkF mM 20 #[.val (.ref b), .val (.int 1), .val (.int 4), .val (.ref t_1), .val (.int 1)] [(.int c1), (.int 1), (.ref t_1)])) _
    refine st11 _ ?_
    show Steps _ _ _ (T11.setTop (mkF mM 23 #[.val (.ref b), .val (.int 1), .val (.int 4), .val (.ref t_1), .val (.int 1)] [])) _
    refine XS.iinc X11.here hx rfl (hb hby dj52_14_23) rfl (l' := #[.val (.ref b), .val (.int 2), .val (.int 4), .val (.ref t_1), .val (.int 1)]) rfl ?_
    show Steps _ _ _ (T11.setTop (mkF mM 26 #[.val (.ref b), .val (.int 2), .val (.int 4), .val (.ref t_1), .val (.int 1)] [])) _
    refine XS.iinc X11.here hx rfl (hb hby dj52_14_26) rfl (l' := #[.val (.ref b), .val (.int 2), .val (.int 4), .val (.ref t_1), .val (.int 2)]) rfl ?_
    show Steps _ _ _ (T11.setTop (mkF mM 29 #[.val (.ref b), .val (.int 2), .val (.int 4), .val (.ref t_1), .val (.int 2)] [])) _
    refine XS.goto X11.here hx rfl (pc0 := 29) (pc' := 8) rfl (hb hby dj52_14_29) (by decide) (by decide) ?_
    show Steps _ _ _ (T11.setTop (mkF mM 8 #[.val (.ref b), .val (.int 2), .val (.int 4), .val (.ref t_1), .val (.int 2)] [])) _
    refine XS.iload X11.here hx rfl (hb hby dj52_14_8) rfl ?_
    show Steps _ _ _ (T11.setTop (mkF mM 10 #[.val (.ref b), .val (.int 2), .val (.int 4), .val (.ref t_1), .val (.int 2)] [(.int 2)])) _
    refine XS.iloadN X11.here hx rfl (hb hby dj52_14_10) rfl ?_
    show Steps _ _ _ (T11.setTop (mkF mM 11 #[.val (.ref b), .val (.int 2), .val (.int 4), .val (.ref t_1), .val (.int 2)] [(.int 4), (.int 2)])) _
    refine XS.icmpNo X11.here hx rfl (hb hby dj52_14_11) rfl (tlt (by decide : (2 : Int32) < (4 : Int32))).2.1 ?_
    show Steps _ _ _ (T11.setTop (mkF mM 14 #[.val (.ref b), .val (.int 2), .val (.int 4), .val (.ref t_1), .val (.int 2)] [])) _
    refine XS.aloadN X11.here hx rfl (hb hby dj52_14_14) rfl rfl ?_
    show Steps _ _ _ (T11.setTop (mkF mM 15 #[.val (.ref b), .val (.int 2), .val (.int 4), .val (.ref t_1), .val (.int 2)] [(.ref t_1)])) _
    refine XS.iload X11.here hx rfl (hb hby dj52_14_15) rfl ?_
    show Steps _ _ _ (T11.setTop (mkF mM 17 #[.val (.ref b), .val (.int 2), .val (.int 4), .val (.ref t_1), .val (.int 2)] [(.int 2), (.ref t_1)])) _
    refine XS.aloadN X11.here hx rfl (hb hby dj52_14_17) rfl rfl ?_
    show Steps _ _ _ (T11.setTop (mkF mM 18 #[.val (.ref b), .val (.int 2), .val (.int 4), .val (.ref t_1), .val (.int 2)] [(.ref b), (.int 2), (.ref t_1)])) _
    refine XS.iloadN X11.here hx rfl (hb hby dj52_14_18) rfl ?_
    show Steps _ _ _ (T11.setTop (mkF mM 19 #[.val (.ref b), .val (.int 2), .val (.int 4), .val (.ref t_1), .val (.int 2)] [(.int 2), (.ref b), (.int 2), (.ref t_1)])) _
    refine X11.caload hx (j := (2 : Int32)) (v := (.int c2)) (Ar13.1) (State.isArrayOf_alike hZ.alike Ar13.2.1) Ar13.2.2 hin13 hat13 (g := (mkF mM 19 #[.val (.ref b), .val (.int 2), .val (.int 4), .val (.ref t_1), .val (.int 2)] [(.int 2), (.ref b), (.int 2), (.ref t_1)])) rfl rfl (hb hby dj52_14_19) _ ?_
    show Steps _ _ _ (T11.setTop (mkF mM 20 #[.val (.ref b), .val (.int 2), .val (.int 4), .val (.ref t_1), .val (.int 2)] [(.int c2), (.int 2), (.ref t_1)])) _
    refine st16 _ ?_
    show Steps _ _ _ (T16.setTop (mkF mM 23 #[.val (.ref b), .val (.int 2), .val (.int 4), .val (.ref t_1), .val (.int 2)] [])) _
    refine XS.iinc X16.here hx rfl (hb hby dj52_14_23) rfl (l' := #[.val (.ref b), .val (.int 3), .val (.int 4), .val (.ref t_1), .val (.int 2)]) rfl ?_
    show Steps _ _ _ (T16.setTop (mkF mM 26 #[.val (.ref b), .val (.int 3), .val (.int 4), .val (.ref t_1), .val (.int 2)] [])) _
    refine XS.iinc X16.here hx rfl (hb hby dj52_14_26) rfl (l' := #[.val (.ref b), .val (.int 3), .val (.int 4), .val (.ref t_1), .val (.int 3)]) rfl ?_
    show Steps _ _ _ (T16.setTop (mkF mM 29 #[.val (.ref b), .val (.int 3), .val (.int 4), .val (.ref t_1), .val (.int 3)] [])) _
    refine XS.goto X16.here hx rfl (pc0 := 29) (pc' := 8) rfl (hb hby dj52_14_29) (by decide) (by decide) ?_
    show Steps _ _ _ (T16.setTop (mkF mM 8 #[.val (.ref b), .val (.int 3), .val (.int 4), .val (.ref t_1), .val (.int 3)] [])) _
    refine XS.iload X16.here hx rfl (hb hby dj52_14_8) rfl ?_
    show Steps _ _ _ (T16.setTop (mkF mM 10 #[.val (.ref b), .val (.int 3), .val (.int 4), .val (.ref t_1), .val (.int 3)] [(.int 3)])) _
    refine XS.iloadN X16.here hx rfl (hb hby dj52_14_10) rfl ?_
    show Steps _ _ _ (T16.setTop (mkF mM 11 #[.val (.ref b), .val (.int 3), .val (.int 4), .val (.ref t_1), .val (.int 3)] [(.int 4), (.int 3)])) _
    refine XS.icmpNo X16.here hx rfl (hb hby dj52_14_11) rfl (tlt (by decide : (3 : Int32) < (4 : Int32))).2.1 ?_
    show Steps _ _ _ (T16.setTop (mkF mM 14 #[.val (.ref b), .val (.int 3), .val (.int 4), .val (.ref t_1), .val (.int 3)] [])) _
    refine XS.aloadN X16.here hx rfl (hb hby dj52_14_14) rfl rfl ?_
    show Steps _ _ _ (T16.setTop (mkF mM 15 #[.val (.ref b), .val (.int 3), .val (.int 4), .val (.ref t_1), .val (.int 3)] [(.ref t_1)])) _
    refine XS.iload X16.here hx rfl (hb hby dj52_14_15) rfl ?_
    show Steps _ _ _ (T16.setTop (mkF mM 17 #[.val (.ref b), .val (.int 3), .val (.int 4), .val (.ref t_1), .val (.int 3)] [(.int 3), (.ref t_1)])) _
    refine XS.aloadN X16.here hx rfl (hb hby dj52_14_17) rfl rfl ?_
    show Steps _ _ _ (T16.setTop (mkF mM 18 #[.val (.ref b), .val (.int 3), .val (.int 4), .val (.ref t_1), .val (.int 3)] [(.ref b), (.int 3), (.ref t_1)])) _
    refine XS.iloadN X16.here hx rfl (hb hby dj52_14_18) rfl ?_
    show Steps _ _ _ (T16.setTop (mkF mM 19 #[.val (.ref b), .val (.int 3), .val (.int 4), .val (.ref t_1), .val (.int 3)] [(.int 3), (.ref b), (.int 3), (.ref t_1)])) _
    refine X16.caload hx (j := (3 : Int32)) (v := (.int c3)) (Ar18.1) (State.isArrayOf_alike hZ.alike Ar18.2.1) Ar18.2.2 hin18 hat18 (g := (mkF mM 19 #[.val (.ref b), .val (.int 3), .val (.int 4), .val (.ref t_1), .val (.int 3)] [(.int 3), (.ref b), (.int 3), (.ref t_1)])) rfl rfl (hb hby dj52_14_19) _ ?_
    show Steps _ _ _ (T16.setTop (mkF mM 20 #[.val (.ref b), .val (.int 3), .val (.int 4), .val (.ref t_1), .val (.int 3)] [(.int c3), (.int 3), (.ref t_1)])) _
    refine st21 _ ?_
    show Steps _ _ _ (T21.setTop (mkF mM 23 #[.val (.ref b), .val (.int 3), .val (.int 4), .val (.ref t_1), .val (.int 3)] [])) _
    refine XS.iinc X21.here hx rfl (hb hby dj52_14_23) rfl (l' := #[.val (.ref b), .val (.int 4), .val (.int 4), .val (.ref t_1), .val (.int 3)]) rfl ?_
    show Steps _ _ _ (T21.setTop (mkF mM 26 #[.val (.ref b), .val (.int 4), .val (.int 4), .val (.ref t_1), .val (.int 3)] [])) _
    refine XS.iinc X21.here hx rfl (hb hby dj52_14_26) rfl (l' := #[.val (.ref b), .val (.int 4), .val (.int 4), .val (.ref t_1), .val (.int 4)]) rfl ?_
    show Steps _ _ _ (T21.setTop (mkF mM 29 #[.val (.ref b), .val (.int 4), .val (.int 4), .val (.ref t_1), .val (.int 4)] [])) _
    refine XS.goto X21.here hx rfl (pc0 := 29) (pc' := 8) rfl (hb hby dj52_14_29) (by decide) (by decide) ?_
    show Steps _ _ _ (T21.setTop (mkF mM 8 #[.val (.ref b), .val (.int 4), .val (.int 4), .val (.ref t_1), .val (.int 4)] [])) _
    refine XS.iload X21.here hx rfl (hb hby dj52_14_8) rfl ?_
    show Steps _ _ _ (T21.setTop (mkF mM 10 #[.val (.ref b), .val (.int 4), .val (.int 4), .val (.ref t_1), .val (.int 4)] [(.int 4)])) _
    refine XS.iloadN X21.here hx rfl (hb hby dj52_14_10) rfl ?_
    show Steps _ _ _ (T21.setTop (mkF mM 11 #[.val (.ref b), .val (.int 4), .val (.int 4), .val (.ref t_1), .val (.int 4)] [(.int 4), (.int 4)])) _
    refine XS.icmpYes X21.here hx rfl (pc0 := 11) (pc' := 32) rfl (hb hby dj52_14_11) rfl (flt (by decide : ¬ ((4 : Int32) < (4 : Int32)))).2.1 (by decide) (by decide) ?_
    show Steps _ _ _ (T21.setTop (mkF mM 32 #[.val (.ref b), .val (.int 4), .val (.int 4), .val (.ref t_1), .val (.int 4)] [])) _
    refine XS.aloadN X21.here hx rfl (hb hby dj52_14_32) rfl rfl ?_
    show Steps _ _ _ (T21.setTop (mkF mM 33 #[.val (.ref b), .val (.int 4), .val (.int 4), .val (.ref t_1), .val (.int 4)] [(.ref t_1)])) _
    jvm_step X21.here [X21.here.top, hx, (hb hby dj52_14_33), X21.method', Bd.returns, Value.isRef, FieldType.isReference]
    first | (intro acts; rw [hr _ acts rfl rfl rfl]) | rw [hr _ _ rfl rfl rfl]
    exact Steps.refl _
  · show Q_tob4 Z b kb c0 c1 c2 c3 h0 n0 _ T21.heap _
    exact ⟨t_1, k_1, rfl, N21, K22, sz_t_1, (show Arv Z T21.heap t_1 k_1 .byte (Int32.ofNat (2 * 4)) (own_u16 [c0, c1, c2, c3]) (.int 0) from q21_0)⟩
theorem ef_cm1 (m : MethodId) (x0 : Addr) (x1 : Int32) (x2 : Addr) (x3 : Int32) (x4 : Int32) : entryFrame m #[(.ref x0), (.int x1), (.ref x2), (.int x3), (.int x4)] 7 = mkF m 0 #[.val (.ref x0), .val (.int x1), .val (.ref x2), .val (.int x3), .val (.int x4), .unset, .unset] [] := by first | (simp [entryFrame, mkF, argsToLocals, Value.category]; done) | rfl
def Q_cm1 (Z : State) (b : Addr) (kb : ClassId) (t : Addr) (k : ClassId) (c0 : Int32) (h0 : Heap) (n0 : Nat) (vV : Option Value) (h : Heap) (LL : List Loc) : Prop := ∃ (vs : List Value), vV = some (.int (Int32.ofNat (own_fi ([c0] : List Int32)))) ∧ Fr n0 LL ∧ Keep h0 h [t] ∧ Arv Z h t k .byte (1 : Int32) vs (.int 0)
set_option maxRecDepth 65536 in
set_option maxHeartbeats 40000000 in
theorem rm_cm1 (l : Launch) (Z : State) (a0 : Array Value) (hw : ∀ d ∈ tables_1, d.before a0 Z = true) (ws : List Jvm.Cond) (b : Addr) (kb : ClassId) (t : Addr) (k : ClassId) (c0 : Int32) (h0 : Heap) (n0 : Nat) (O0 : Old Z n0 h0) (V_b : Arv Z h0 b kb .char (1 : Int32) [(.int c0)] (.int 0)) (V_t : Arv Z h0 t k .byte (1 : Int32) [(.int 0)] (.int 0)) (g_t : n0 ≤ t) (ne3 : b ≠ t) (hp4 : ((own_fi ([c0] : List Int32)) < 1)) :
    MetFree l (⟨"java/lang/StringUTF16", "compress", "([CI[BII)I"⟩ : MethodName) (head1 (Jvm.Cond.code (⟨"java/lang/StringUTF16", "compress", "([CI[BII)I"⟩ : MethodName) jdk_52_method_21_code 7 (some .int) :: ws) (⟨0, 0, 0, 0⟩ : Room)) (fun aa_ U => aa_ = #[(.ref b), (.int 0), (.ref t), (.int 0), (.int 1)] ∧ Z.Warmed39 U.vm ∧ U.heap = h0) (fun _ _ _ _ _ => True) (fun _ U o U' => ∃ vV LL, o = .returned vV ∧ Q_cm1 Z b kb t k c0 h0 n0 vV U'.heap LL ∧ FrameEnd U o U' LL (⟨0, 0, 0, 0⟩ : Room).cells (⟨0, 0, 0, 0⟩ : Room).slots) := by
  refine MetFree.of_bodySF (plainFor_of_name pn_2) hisR ?_
  intro pP eE sS mM args below meth cC s₁ Bd hml0 hP hK
  obtain ⟨rfl, hZ, hh⟩ := hP
  have hx := Bd.exec
  have hby := Bd.bytes
  have hml : cC.maxLocals = 7 := hml0
  have hown : sS.vm.findClass "java/lang/StringUTF16" = some mM.cls := findClass_of_methodNamed Bd.named
  have hnm := (name_of_methodNamed Bd.named Bd.method).1
  have X0 : Stand pP l eE (⟨0, 0, 0, 0⟩ : Room) sS mM #[(.ref b), (.int 0), (.ref t), (.int 0), (.int 1)] below meth cC s₁ [] 0 0 := Stand.of_body Bd
  have e0 : s₁.heap = h0 := by rw [← hh, Bd.state]; rfl
  have N0 := Fr.nil n0
  have pre0 : ∀ tg, Steps pP.tables eE below (s₁.setTop (mkF mM 0 #[.val (.ref b), .val (.int 0), .val (.ref t), .val (.int 0), .val (.int 1), .unset, .unset] [])) tg → Steps pP.tables eE below (s₁.setTop (entryFrame mM #[(.ref b), (.int 0), (.ref t), (.int 0), (.int 1)] 7)) tg := fun tg kg => castTop (ef_cm1 mM b (0 : Int32) t (0 : Int32) (1 : Int32)) kg
  have K0 : Keep h0 h0 [t] := Keep.refl _ _
  obtain ⟨cl1, Ar1, -, S1, Nn1, Hh1, -⟩ := id V_b
  have hin1 : ¬ ((0 : Int32) < 0 ∨ cl1.slots.size ≤ ((0 : Int32)).toNatClampNeg) := inb_of S1 ⟨by decide, by decide⟩
  have hat1 : cl1.slots[((0 : Int32)).toNatClampNeg]? = some (.int c0) := Hh1.at hin1 rfl
  have pre3 : ∀ tg, Steps pP.tables eE below (s₁.setTop (mkF mM 20 #[.val (.ref b), .val (.int 0), .val (.ref t), .val (.int 0), .val (.int 1), .val (.int 0), .val (.int c0)] [(.int 255), (.int c0)])) tg → Steps pP.tables eE below (s₁.setTop (entryFrame mM #[(.ref b), (.int 0), (.ref t), (.int 0), (.int 1)] 7)) tg := fun tg kg => pre0 tg (by
    refine XS.iconst X0.here hx rfl (hb hby dj52_21_0) ?_
    show Steps _ _ _ (s₁.setTop (mkF mM 1 #[.val (.ref b), .val (.int 0), .val (.ref t), .val (.int 0), .val (.int 1), .unset, .unset] [(.int 0)])) _
    refine XS.istore X0.here hx rfl (hb hby dj52_21_1) rfl (l' := #[.val (.ref b), .val (.int 0), .val (.ref t), .val (.int 0), .val (.int 1), .val (.int 0), .unset]) rfl ?_
    show Steps _ _ _ (s₁.setTop (mkF mM 3 #[.val (.ref b), .val (.int 0), .val (.ref t), .val (.int 0), .val (.int 1), .val (.int 0), .unset] [])) _
    refine XS.iload X0.here hx rfl (hb hby dj52_21_3) rfl ?_
    show Steps _ _ _ (s₁.setTop (mkF mM 5 #[.val (.ref b), .val (.int 0), .val (.ref t), .val (.int 0), .val (.int 1), .val (.int 0), .unset] [(.int 0)])) _
    refine XS.iload X0.here hx rfl (hb hby dj52_21_5) rfl ?_
    show Steps _ _ _ (s₁.setTop (mkF mM 7 #[.val (.ref b), .val (.int 0), .val (.ref t), .val (.int 0), .val (.int 1), .val (.int 0), .unset] [(.int 1), (.int 0)])) _
    refine XS.icmpNo X0.here hx rfl (hb hby dj52_21_7) rfl (tlt (by decide : (0 : Int32) < (1 : Int32))).2.1 ?_
    show Steps _ _ _ (s₁.setTop (mkF mM 10 #[.val (.ref b), .val (.int 0), .val (.ref t), .val (.int 0), .val (.int 1), .val (.int 0), .unset] [])) _
    refine XS.aloadN X0.here hx rfl (hb hby dj52_21_10) rfl rfl ?_
    show Steps _ _ _ (s₁.setTop (mkF mM 11 #[.val (.ref b), .val (.int 0), .val (.ref t), .val (.int 0), .val (.int 1), .val (.int 0), .unset] [(.ref b)])) _
    refine XS.iloadN X0.here hx rfl (hb hby dj52_21_11) rfl ?_
    show Steps _ _ _ (s₁.setTop (mkF mM 12 #[.val (.ref b), .val (.int 0), .val (.ref t), .val (.int 0), .val (.int 1), .val (.int 0), .unset] [(.int 0), (.ref b)])) _
    refine X0.caload hx (j := (0 : Int32)) (v := (.int c0)) (by rw [e0]; exact Ar1.1) (State.isArrayOf_alike hZ.alike Ar1.2.1) Ar1.2.2 hin1 hat1 (g := (mkF mM 12 #[.val (.ref b), .val (.int 0), .val (.ref t), .val (.int 0), .val (.int 1), .val (.int 0), .unset] [(.int 0), (.ref b)])) rfl rfl (hb hby dj52_21_12) _ ?_
    show Steps _ _ _ (s₁.setTop (mkF mM 13 #[.val (.ref b), .val (.int 0), .val (.ref t), .val (.int 0), .val (.int 1), .val (.int 0), .unset] [(.int c0)])) _
    refine XS.istore X0.here hx rfl (hb hby dj52_21_13) rfl (l' := #[.val (.ref b), .val (.int 0), .val (.ref t), .val (.int 0), .val (.int 1), .val (.int 0), .val (.int c0)]) rfl ?_
    show Steps _ _ _ (s₁.setTop (mkF mM 15 #[.val (.ref b), .val (.int 0), .val (.ref t), .val (.int 0), .val (.int 1), .val (.int 0), .val (.int c0)] [])) _
    refine XS.iload X0.here hx rfl (hb hby dj52_21_15) rfl ?_
    show Steps _ _ _ (s₁.setTop (mkF mM 17 #[.val (.ref b), .val (.int 0), .val (.ref t), .val (.int 0), .val (.int 1), .val (.int 0), .val (.int c0)] [(.int c0)])) _
    refine XS.sipush X0.here hx rfl (hb hby dj52_21_17) ?_
    exact kg)
  by_cases hc2 : (255 : Int32) < c0
  · obtain ⟨fs, hr, hrun, hended, hW, hsame⟩ := X0.leave (v := some (.int 0)) (fun h => by rw [Bd.returns] at h; cases h)
    refine ⟨_, _, pre3 _ ?_, hrun, hended, _, _, rfl, ?_, ⟨_, rfl⟩, hW, hsame.mono (by decide) (by decide)⟩
    · refine XS.icmpNo X0.here hx rfl (hb hby dj52_21_20) rfl (tlt hc2).2.2.2 ?_
      show Steps _ _ _ (s₁.setTop (mkF mM 23 #[.val (.ref b), .val (.int 0), .val (.ref t), .val (.int 0), .val (.int 1), .val (.int 0), .val (.int c0)] [])) _
      refine XS.iload X0.here hx rfl (hb hby dj52_21_23) rfl ?_
      show Steps _ _ _ (s₁.setTop (mkF mM 25 #[.val (.ref b), .val (.int 0), .val (.ref t), .val (.int 0), .val (.int 1), .val (.int 0), .val (.int c0)] [(.int 0)])) _
      exact retI X0 hx Bd.returns (hb hby dj52_21_25) hr
    · show Q_cm1 Z b kb t k c0 h0 n0 _ s₁.heap _
      rw [e0]
      exact ⟨[(.int 0)], (by rw [show (own_fi ([c0] : List Int32)) = 0 from by simp only [own_fi, if_pos hc2]]; rfl), N0, K0, V_t⟩
  · obtain ⟨cl5, Ar5, qk5, S5, Nn5, Hh5, G5⟩ := id V_t
    have hin5 : ¬ ((0 : Int32) < 0 ∨ cl5.slots.size ≤ ((0 : Int32)).toNatClampNeg) := inb_of S5 ⟨by decide, by decide⟩
    obtain ⟨T5, h5, X5, e5, W5, st5⟩ := stB X0 hx hZ e0 Ar5 (j := (0 : Int32)) hin5 (g := (mkF mM 31 #[.val (.ref b), .val (.int 0), .val (.ref t), .val (.int 0), .val (.int 1), .val (.int 0), .val (.int c0)] [(.int (c0.toInt8.toInt32)), (.int 0), (.ref t)])) rfl rfl (hb hby dj52_21_31)
    rw [own_narb c0] at W5
    have K6 : Keep h0 h5 [t] := K0.wr W5 (Or.inl (List.mem_of_getElem? (i := 0) rfl))
    have V5 : Arv Z h5 t k .byte (1 : Int32) [(.int (c0.toInt8.toInt32))] (.int 0) := Arv.set Ar5 qk5 S5 Nn5 Hh5 G5 (own_narb c0 ▸ fits_nar_byte _) W5 0 rfl (Nat.le_of_ble_eq_true rfl)
    have N5 := Fr.snoc X5 N0 g_t
    exact absurd hp4 (by simp only [own_fi, if_neg hc2]; decide)
theorem ef_cm2 (m : MethodId) (x0 : Addr) (x1 : Int32) (x2 : Addr) (x3 : Int32) (x4 : Int32) : entryFrame m #[(.ref x0), (.int x1), (.ref x2), (.int x3), (.int x4)] 7 = mkF m 0 #[.val (.ref x0), .val (.int x1), .val (.ref x2), .val (.int x3), .val (.int x4), .unset, .unset] [] := by first | (simp [entryFrame, mkF, argsToLocals, Value.category]; done) | rfl
def Q_cm2 (Z : State) (b : Addr) (kb : ClassId) (t : Addr) (k : ClassId) (c0 : Int32) (c1 : Int32) (h0 : Heap) (n0 : Nat) (vV : Option Value) (h : Heap) (LL : List Loc) : Prop := ∃ (vs : List Value), vV = some (.int (Int32.ofNat (own_fi ([c0, c1] : List Int32)))) ∧ Fr n0 LL ∧ Keep h0 h [t] ∧ Arv Z h t k .byte (2 : Int32) vs (.int 0)
set_option maxRecDepth 65536 in
set_option maxHeartbeats 40000000 in
theorem rm_cm2 (l : Launch) (Z : State) (a0 : Array Value) (hw : ∀ d ∈ tables_1, d.before a0 Z = true) (ws : List Jvm.Cond) (b : Addr) (kb : ClassId) (t : Addr) (k : ClassId) (c0 : Int32) (c1 : Int32) (h0 : Heap) (n0 : Nat) (O0 : Old Z n0 h0) (V_b : Arv Z h0 b kb .char (2 : Int32) [(.int c0), (.int c1)] (.int 0)) (V_t : Arv Z h0 t k .byte (2 : Int32) [(.int 0), (.int 0)] (.int 0)) (g_t : n0 ≤ t) (ne3 : b ≠ t) (hp4 : ((own_fi ([c0, c1] : List Int32)) < 2)) :
    MetFree l (⟨"java/lang/StringUTF16", "compress", "([CI[BII)I"⟩ : MethodName) (head1 (Jvm.Cond.code (⟨"java/lang/StringUTF16", "compress", "([CI[BII)I"⟩ : MethodName) jdk_52_method_21_code 7 (some .int) :: ws) (⟨0, 0, 0, 0⟩ : Room)) (fun aa_ U => aa_ = #[(.ref b), (.int 0), (.ref t), (.int 0), (.int 2)] ∧ Z.Warmed39 U.vm ∧ U.heap = h0) (fun _ _ _ _ _ => True) (fun _ U o U' => ∃ vV LL, o = .returned vV ∧ Q_cm2 Z b kb t k c0 c1 h0 n0 vV U'.heap LL ∧ FrameEnd U o U' LL (⟨0, 0, 0, 0⟩ : Room).cells (⟨0, 0, 0, 0⟩ : Room).slots) := by
  refine MetFree.of_bodySF (plainFor_of_name pn_2) hisR ?_
  intro pP eE sS mM args below meth cC s₁ Bd hml0 hP hK
  obtain ⟨rfl, hZ, hh⟩ := hP
  have hx := Bd.exec
  have hby := Bd.bytes
  have hml : cC.maxLocals = 7 := hml0
  have hown : sS.vm.findClass "java/lang/StringUTF16" = some mM.cls := findClass_of_methodNamed Bd.named
  have hnm := (name_of_methodNamed Bd.named Bd.method).1
  have X0 : Stand pP l eE (⟨0, 0, 0, 0⟩ : Room) sS mM #[(.ref b), (.int 0), (.ref t), (.int 0), (.int 2)] below meth cC s₁ [] 0 0 := Stand.of_body Bd
  have e0 : s₁.heap = h0 := by rw [← hh, Bd.state]; rfl
  have N0 := Fr.nil n0
  have pre0 : ∀ tg, Steps pP.tables eE below (s₁.setTop (mkF mM 0 #[.val (.ref b), .val (.int 0), .val (.ref t), .val (.int 0), .val (.int 2), .unset, .unset] [])) tg → Steps pP.tables eE below (s₁.setTop (entryFrame mM #[(.ref b), (.int 0), (.ref t), (.int 0), (.int 2)] 7)) tg := fun tg kg => castTop (ef_cm2 mM b (0 : Int32) t (0 : Int32) (2 : Int32)) kg
  have K0 : Keep h0 h0 [t] := Keep.refl _ _
  obtain ⟨cl1, Ar1, -, S1, Nn1, Hh1, -⟩ := id V_b
  have hin1 : ¬ ((0 : Int32) < 0 ∨ cl1.slots.size ≤ ((0 : Int32)).toNatClampNeg) := inb_of S1 ⟨by decide, by decide⟩
  have hat1 : cl1.slots[((0 : Int32)).toNatClampNeg]? = some (.int c0) := Hh1.at hin1 rfl
  have pre3 : ∀ tg, Steps pP.tables eE below (s₁.setTop (mkF mM 20 #[.val (.ref b), .val (.int 0), .val (.ref t), .val (.int 0), .val (.int 2), .val (.int 0), .val (.int c0)] [(.int 255), (.int c0)])) tg → Steps pP.tables eE below (s₁.setTop (entryFrame mM #[(.ref b), (.int 0), (.ref t), (.int 0), (.int 2)] 7)) tg := fun tg kg => pre0 tg (by
    refine XS.iconst X0.here hx rfl (hb hby dj52_21_0) ?_
    show Steps _ _ _ (s₁.setTop (mkF mM 1 #[.val (.ref b), .val (.int 0), .val (.ref t), .val (.int 0), .val (.int 2), .unset, .unset] [(.int 0)])) _
    refine XS.istore X0.here hx rfl (hb hby dj52_21_1) rfl (l' := #[.val (.ref b), .val (.int 0), .val (.ref t), .val (.int 0), .val (.int 2), .val (.int 0), .unset]) rfl ?_
    show Steps _ _ _ (s₁.setTop (mkF mM 3 #[.val (.ref b), .val (.int 0), .val (.ref t), .val (.int 0), .val (.int 2), .val (.int 0), .unset] [])) _
    refine XS.iload X0.here hx rfl (hb hby dj52_21_3) rfl ?_
    show Steps _ _ _ (s₁.setTop (mkF mM 5 #[.val (.ref b), .val (.int 0), .val (.ref t), .val (.int 0), .val (.int 2), .val (.int 0), .unset] [(.int 0)])) _
    refine XS.iload X0.here hx rfl (hb hby dj52_21_5) rfl ?_
    show Steps _ _ _ (s₁.setTop (mkF mM 7 #[.val (.ref b), .val (.int 0), .val (.ref t), .val (.int 0), .val (.int 2), .val (.int 0), .unset] [(.int 2), (.int 0)])) _
    refine XS.icmpNo X0.here hx rfl (hb hby dj52_21_7) rfl (tlt (by decide : (0 : Int32) < (2 : Int32))).2.1 ?_
    show Steps _ _ _ (s₁.setTop (mkF mM 10 #[.val (.ref b), .val (.int 0), .val (.ref t), .val (.int 0), .val (.int 2), .val (.int 0), .unset] [])) _
    refine XS.aloadN X0.here hx rfl (hb hby dj52_21_10) rfl rfl ?_
    show Steps _ _ _ (s₁.setTop (mkF mM 11 #[.val (.ref b), .val (.int 0), .val (.ref t), .val (.int 0), .val (.int 2), .val (.int 0), .unset] [(.ref b)])) _
    refine XS.iloadN X0.here hx rfl (hb hby dj52_21_11) rfl ?_
    show Steps _ _ _ (s₁.setTop (mkF mM 12 #[.val (.ref b), .val (.int 0), .val (.ref t), .val (.int 0), .val (.int 2), .val (.int 0), .unset] [(.int 0), (.ref b)])) _
    refine X0.caload hx (j := (0 : Int32)) (v := (.int c0)) (by rw [e0]; exact Ar1.1) (State.isArrayOf_alike hZ.alike Ar1.2.1) Ar1.2.2 hin1 hat1 (g := (mkF mM 12 #[.val (.ref b), .val (.int 0), .val (.ref t), .val (.int 0), .val (.int 2), .val (.int 0), .unset] [(.int 0), (.ref b)])) rfl rfl (hb hby dj52_21_12) _ ?_
    show Steps _ _ _ (s₁.setTop (mkF mM 13 #[.val (.ref b), .val (.int 0), .val (.ref t), .val (.int 0), .val (.int 2), .val (.int 0), .unset] [(.int c0)])) _
    refine XS.istore X0.here hx rfl (hb hby dj52_21_13) rfl (l' := #[.val (.ref b), .val (.int 0), .val (.ref t), .val (.int 0), .val (.int 2), .val (.int 0), .val (.int c0)]) rfl ?_
    show Steps _ _ _ (s₁.setTop (mkF mM 15 #[.val (.ref b), .val (.int 0), .val (.ref t), .val (.int 0), .val (.int 2), .val (.int 0), .val (.int c0)] [])) _
    refine XS.iload X0.here hx rfl (hb hby dj52_21_15) rfl ?_
    show Steps _ _ _ (s₁.setTop (mkF mM 17 #[.val (.ref b), .val (.int 0), .val (.ref t), .val (.int 0), .val (.int 2), .val (.int 0), .val (.int c0)] [(.int c0)])) _
    refine XS.sipush X0.here hx rfl (hb hby dj52_21_17) ?_
    exact kg)
  by_cases hc2 : (255 : Int32) < c0
  · obtain ⟨fs, hr, hrun, hended, hW, hsame⟩ := X0.leave (v := some (.int 0)) (fun h => by rw [Bd.returns] at h; cases h)
    refine ⟨_, _, pre3 _ ?_, hrun, hended, _, _, rfl, ?_, ⟨_, rfl⟩, hW, hsame.mono (by decide) (by decide)⟩
    · refine XS.icmpNo X0.here hx rfl (hb hby dj52_21_20) rfl (tlt hc2).2.2.2 ?_
      show Steps _ _ _ (s₁.setTop (mkF mM 23 #[.val (.ref b), .val (.int 0), .val (.ref t), .val (.int 0), .val (.int 2), .val (.int 0), .val (.int c0)] [])) _
      refine XS.iload X0.here hx rfl (hb hby dj52_21_23) rfl ?_
      show Steps _ _ _ (s₁.setTop (mkF mM 25 #[.val (.ref b), .val (.int 0), .val (.ref t), .val (.int 0), .val (.int 2), .val (.int 0), .val (.int c0)] [(.int 0)])) _
      exact retI X0 hx Bd.returns (hb hby dj52_21_25) hr
    · show Q_cm2 Z b kb t k c0 c1 h0 n0 _ s₁.heap _
      rw [e0]
      exact ⟨[(.int 0), (.int 0)], (by rw [show (own_fi ([c0, c1] : List Int32)) = 0 from by simp only [own_fi, if_pos hc2]]; rfl), N0, K0, V_t⟩
  · obtain ⟨cl5, Ar5, qk5, S5, Nn5, Hh5, G5⟩ := id V_t
    have hin5 : ¬ ((0 : Int32) < 0 ∨ cl5.slots.size ≤ ((0 : Int32)).toNatClampNeg) := inb_of S5 ⟨by decide, by decide⟩
    obtain ⟨T5, h5, X5, e5, W5, st5⟩ := stB X0 hx hZ e0 Ar5 (j := (0 : Int32)) hin5 (g := (mkF mM 31 #[.val (.ref b), .val (.int 0), .val (.ref t), .val (.int 0), .val (.int 2), .val (.int 0), .val (.int c0)] [(.int (c0.toInt8.toInt32)), (.int 0), (.ref t)])) rfl rfl (hb hby dj52_21_31)
    rw [own_narb c0] at W5
    have K6 : Keep h0 h5 [t] := K0.wr W5 (Or.inl (List.mem_of_getElem? (i := 0) rfl))
    have V5 : Arv Z h5 t k .byte (2 : Int32) [(.int (c0.toInt8.toInt32)), (.int 0)] (.int 0) := Arv.set Ar5 qk5 S5 Nn5 Hh5 G5 (own_narb c0 ▸ fits_nar_byte _) W5 0 rfl (Nat.le_of_ble_eq_true rfl)
    have N5 := Fr.snoc X5 N0 g_t
    have f8 := (V_b.other W5 ne3)
    obtain ⟨cl7, Ar7, -, S7, Nn7, Hh7, -⟩ := id f8
    have hin7 : ¬ ((1 : Int32) < 0 ∨ cl7.slots.size ≤ ((1 : Int32)).toNatClampNeg) := inb_of S7 ⟨by decide, by decide⟩
    have hat7 : cl7.slots[((1 : Int32)).toNatClampNeg]? = some (.int c1) := Hh7.at hin7 rfl
    have pre10 : ∀ tg, Steps pP.tables eE below (T5.setTop (mkF mM 20 #[.val (.ref b), .val (.int 1), .val (.ref t), .val (.int 1), .val (.int 2), .val (.int 1), .val (.int c1)] [(.int 255), (.int c1)])) tg → Steps pP.tables eE below (s₁.setTop (entryFrame mM #[(.ref b), (.int 0), (.ref t), (.int 0), (.int 2)] 7)) tg := fun tg kg => pre3 tg (by
      refine XS.icmpYes X0.here hx rfl (pc0 := 20) (pc' := 26) rfl (hb hby dj52_21_20) rfl (flt hc2).2.2.2 (by decide) (by decide) ?_
      show Steps _ _ _ (s₁.setTop (mkF mM 26 #[.val (.ref b), .val (.int 0), .val (.ref t), .val (.int 0), .val (.int 2), .val (.int 0), .val (.int c0)] [])) _
      refine XS.aloadN X0.here hx rfl (hb hby dj52_21_26) rfl rfl ?_
      show Steps _ _ _ (s₁.setTop (mkF mM 27 #[.val (.ref b), .val (.int 0), .val (.ref t), .val (.int 0), .val (.int 2), .val (.int 0), .val (.int c0)] [(.ref t)])) _
      refine XS.iloadN X0.here hx rfl (hb hby dj52_21_27) rfl ?_
      show Steps _ _ _ (s₁.setTop (mkF mM 28 #[.val (.ref b), .val (.int 0), .val (.ref t), .val (.int 0), .val (.int 2), .val (.int 0), .val (.int c0)] [(.int 0), (.ref t)])) _
      refine XS.iload X0.here hx rfl (hb hby dj52_21_28) rfl ?_
      show Steps _ _ _ (s₁.setTop (mkF mM 30 #[.val (.ref b), .val (.int 0), .val (.ref t), .val (.int 0), .val (.int 2), .val (.int 0), .val (.int c0)] [(.int c0), (.int 0), (.ref t)])) _
      refine XS.i2b X0.here hx rfl (hb hby dj52_21_30) rfl ?_
      show Steps _ _ _ (s₁.setTop (mkF mM 31 #[.val (.ref b), .val (.int 0), .val (.ref t), .val (.int 0), .val (.int 2), .val (.int 0), .val (.int c0)] [(.int (c0.toInt8.toInt32)), (.int 0), (.ref t)])) _
      refine st5 _ ?_
      show Steps _ _ _ (T5.setTop (mkF mM 32 #[.val (.ref b), .val (.int 0), .val (.ref t), .val (.int 0), .val (.int 2), .val (.int 0), .val (.int c0)] [])) _
      refine XS.iinc X5.here hx rfl (hb hby dj52_21_32) rfl (l' := #[.val (.ref b), .val (.int 1), .val (.ref t), .val (.int 0), .val (.int 2), .val (.int 0), .val (.int c0)]) rfl ?_
      show Steps _ _ _ (T5.setTop (mkF mM 35 #[.val (.ref b), .val (.int 1), .val (.ref t), .val (.int 0), .val (.int 2), .val (.int 0), .val (.int c0)] [])) _
      refine XS.iinc X5.here hx rfl (hb hby dj52_21_35) rfl (l' := #[.val (.ref b), .val (.int 1), .val (.ref t), .val (.int 1), .val (.int 2), .val (.int 0), .val (.int c0)]) rfl ?_
      show Steps _ _ _ (T5.setTop (mkF mM 38 #[.val (.ref b), .val (.int 1), .val (.ref t), .val (.int 1), .val (.int 2), .val (.int 0), .val (.int c0)] [])) _
      refine XS.iinc X5.here hx rfl (hb hby dj52_21_38) rfl (l' := #[.val (.ref b), .val (.int 1), .val (.ref t), .val (.int 1), .val (.int 2), .val (.int 1), .val (.int c0)]) rfl ?_
      show Steps _ _ _ (T5.setTop (mkF mM 41 #[.val (.ref b), .val (.int 1), .val (.ref t), .val (.int 1), .val (.int 2), .val (.int 1), .val (.int c0)] [])) _
      refine XS.goto X5.here hx rfl (pc0 := 41) (pc' := 3) rfl (hb hby dj52_21_41) (by decide) (by decide) ?_
      show Steps _ _ _ (T5.setTop (mkF mM 3 #[.val (.ref b), .val (.int 1), .val (.ref t), .val (.int 1), .val (.int 2), .val (.int 1), .val (.int c0)] [])) _
      refine XS.iload X5.here hx rfl (hb hby dj52_21_3) rfl ?_
      show Steps _ _ _ (T5.setTop (mkF mM 5 #[.val (.ref b), .val (.int 1), .val (.ref t), .val (.int 1), .val (.int 2), .val (.int 1), .val (.int c0)] [(.int 1)])) _
      refine XS.iload X5.here hx rfl (hb hby dj52_21_5) rfl ?_
      show Steps _ _ _ (T5.setTop (mkF mM 7 #[.val (.ref b), .val (.int 1), .val (.ref t), .val (.int 1), .val (.int 2), .val (.int 1), .val (.int c0)] [(.int 2), (.int 1)])) _
      refine XS.icmpNo X5.here hx rfl (hb hby dj52_21_7) rfl (tlt (by decide : (1 : Int32) < (2 : Int32))).2.1 ?_
      show Steps _ _ _ (T5.setTop (mkF mM 10 #[.val (.ref b), .val (.int 1), .val (.ref t), .val (.int 1), .val (.int 2), .val (.int 1), .val (.int c0)] [])) _
      refine XS.aloadN X5.here hx rfl (hb hby dj52_21_10) rfl rfl ?_
      show Steps _ _ _ (T5.setTop (mkF mM 11 #[.val (.ref b), .val (.int 1), .val (.ref t), .val (.int 1), .val (.int 2), .val (.int 1), .val (.int c0)] [(.ref b)])) _
      refine XS.iloadN X5.here hx rfl (hb hby dj52_21_11) rfl ?_
      show Steps _ _ _ (T5.setTop (mkF mM 12 #[.val (.ref b), .val (.int 1), .val (.ref t), .val (.int 1), .val (.int 2), .val (.int 1), .val (.int c0)] [(.int 1), (.ref b)])) _
      refine X5.caload hx (j := (1 : Int32)) (v := (.int c1)) (by rw [e5]; exact Ar7.1) (State.isArrayOf_alike hZ.alike Ar7.2.1) Ar7.2.2 hin7 hat7 (g := (mkF mM 12 #[.val (.ref b), .val (.int 1), .val (.ref t), .val (.int 1), .val (.int 2), .val (.int 1), .val (.int c0)] [(.int 1), (.ref b)])) rfl rfl (hb hby dj52_21_12) _ ?_
      show Steps _ _ _ (T5.setTop (mkF mM 13 #[.val (.ref b), .val (.int 1), .val (.ref t), .val (.int 1), .val (.int 2), .val (.int 1), .val (.int c0)] [(.int c1)])) _
      refine XS.istore X5.here hx rfl (hb hby dj52_21_13) rfl (l' := #[.val (.ref b), .val (.int 1), .val (.ref t), .val (.int 1), .val (.int 2), .val (.int 1), .val (.int c1)]) rfl ?_
      show Steps _ _ _ (T5.setTop (mkF mM 15 #[.val (.ref b), .val (.int 1), .val (.ref t), .val (.int 1), .val (.int 2), .val (.int 1), .val (.int c1)] [])) _
      refine XS.iload X5.here hx rfl (hb hby dj52_21_15) rfl ?_
      show Steps _ _ _ (T5.setTop (mkF mM 17 #[.val (.ref b), .val (.int 1), .val (.ref t), .val (.int 1), .val (.int 2), .val (.int 1), .val (.int c1)] [(.int c1)])) _
      refine XS.sipush X5.here hx rfl (hb hby dj52_21_17) ?_
      exact kg)
    by_cases hc9 : (255 : Int32) < c1
    · obtain ⟨fs, hr, hrun, hended, hW, hsame⟩ := X5.leave (v := some (.int 1)) (fun h => by rw [Bd.returns] at h; cases h)
      refine ⟨_, _, pre10 _ ?_, hrun, hended, _, _, rfl, ?_, ⟨_, rfl⟩, hW, hsame.mono (by decide) (by decide)⟩
      · refine XS.icmpNo X5.here hx rfl (hb hby dj52_21_20) rfl (tlt hc9).2.2.2 ?_
        show Steps _ _ _ (T5.setTop (mkF mM 23 #[.val (.ref b), .val (.int 1), .val (.ref t), .val (.int 1), .val (.int 2), .val (.int 1), .val (.int c1)] [])) _
        refine XS.iload X5.here hx rfl (hb hby dj52_21_23) rfl ?_
        show Steps _ _ _ (T5.setTop (mkF mM 25 #[.val (.ref b), .val (.int 1), .val (.ref t), .val (.int 1), .val (.int 2), .val (.int 1), .val (.int c1)] [(.int 1)])) _
        exact retI X5 hx Bd.returns (hb hby dj52_21_25) hr
      · show Q_cm2 Z b kb t k c0 c1 h0 n0 _ T5.heap _
        rw [e5]
        exact ⟨[(.int (c0.toInt8.toInt32)), (.int 0)], (by rw [show (own_fi ([c0, c1] : List Int32)) = 1 from by simp only [own_fi, if_neg hc2, if_pos hc9]]; rfl), N5, K6, V5⟩
    · obtain ⟨cl12, Ar12, qk12, S12, Nn12, Hh12, G12⟩ := id V5
      have hin12 : ¬ ((1 : Int32) < 0 ∨ cl12.slots.size ≤ ((1 : Int32)).toNatClampNeg) := inb_of S12 ⟨by decide, by decide⟩
      obtain ⟨T12, h12, X12, e12, W12, st12⟩ := stB X5 hx hZ e5 Ar12 (j := (1 : Int32)) hin12 (g := (mkF mM 31 #[.val (.ref b), .val (.int 1), .val (.ref t), .val (.int 1), .val (.int 2), .val (.int 1), .val (.int c1)] [(.int (c1.toInt8.toInt32)), (.int 1), (.ref t)])) rfl rfl (hb hby dj52_21_31)
      rw [own_narb c1] at W12
      have K13 : Keep h0 h12 [t] := K6.wr W12 (Or.inl (List.mem_of_getElem? (i := 0) rfl))
      have V12 : Arv Z h12 t k .byte (2 : Int32) [(.int (c0.toInt8.toInt32)), (.int (c1.toInt8.toInt32))] (.int 0) := Arv.set Ar12 qk12 S12 Nn12 Hh12 G12 (own_narb c1 ▸ fits_nar_byte _) W12 1 rfl (Nat.le_of_ble_eq_true rfl)
      have N12 := Fr.snoc X12 N5 g_t
      exact absurd hp4 (by simp only [own_fi, if_neg hc2, if_neg hc9]; decide)
theorem ef_cm3 (m : MethodId) (x0 : Addr) (x1 : Int32) (x2 : Addr) (x3 : Int32) (x4 : Int32) : entryFrame m #[(.ref x0), (.int x1), (.ref x2), (.int x3), (.int x4)] 7 = mkF m 0 #[.val (.ref x0), .val (.int x1), .val (.ref x2), .val (.int x3), .val (.int x4), .unset, .unset] [] := by first | (simp [entryFrame, mkF, argsToLocals, Value.category]; done) | rfl
def Q_cm3 (Z : State) (b : Addr) (kb : ClassId) (t : Addr) (k : ClassId) (c0 : Int32) (c1 : Int32) (c2 : Int32) (h0 : Heap) (n0 : Nat) (vV : Option Value) (h : Heap) (LL : List Loc) : Prop := ∃ (vs : List Value), vV = some (.int (Int32.ofNat (own_fi ([c0, c1, c2] : List Int32)))) ∧ Fr n0 LL ∧ Keep h0 h [t] ∧ Arv Z h t k .byte (3 : Int32) vs (.int 0)
set_option maxRecDepth 65536 in
set_option maxHeartbeats 40000000 in
theorem rm_cm3 (l : Launch) (Z : State) (a0 : Array Value) (hw : ∀ d ∈ tables_1, d.before a0 Z = true) (ws : List Jvm.Cond) (b : Addr) (kb : ClassId) (t : Addr) (k : ClassId) (c0 : Int32) (c1 : Int32) (c2 : Int32) (h0 : Heap) (n0 : Nat) (O0 : Old Z n0 h0) (V_b : Arv Z h0 b kb .char (3 : Int32) [(.int c0), (.int c1), (.int c2)] (.int 0)) (V_t : Arv Z h0 t k .byte (3 : Int32) [(.int 0), (.int 0), (.int 0)] (.int 0)) (g_t : n0 ≤ t) (ne3 : b ≠ t) (hp4 : ((own_fi ([c0, c1, c2] : List Int32)) < 3)) :
    MetFree l (⟨"java/lang/StringUTF16", "compress", "([CI[BII)I"⟩ : MethodName) (head1 (Jvm.Cond.code (⟨"java/lang/StringUTF16", "compress", "([CI[BII)I"⟩ : MethodName) jdk_52_method_21_code 7 (some .int) :: ws) (⟨0, 0, 0, 0⟩ : Room)) (fun aa_ U => aa_ = #[(.ref b), (.int 0), (.ref t), (.int 0), (.int 3)] ∧ Z.Warmed39 U.vm ∧ U.heap = h0) (fun _ _ _ _ _ => True) (fun _ U o U' => ∃ vV LL, o = .returned vV ∧ Q_cm3 Z b kb t k c0 c1 c2 h0 n0 vV U'.heap LL ∧ FrameEnd U o U' LL (⟨0, 0, 0, 0⟩ : Room).cells (⟨0, 0, 0, 0⟩ : Room).slots) := by
  refine MetFree.of_bodySF (plainFor_of_name pn_2) hisR ?_
  intro pP eE sS mM args below meth cC s₁ Bd hml0 hP hK
  obtain ⟨rfl, hZ, hh⟩ := hP
  have hx := Bd.exec
  have hby := Bd.bytes
  have hml : cC.maxLocals = 7 := hml0
  have hown : sS.vm.findClass "java/lang/StringUTF16" = some mM.cls := findClass_of_methodNamed Bd.named
  have hnm := (name_of_methodNamed Bd.named Bd.method).1
  have X0 : Stand pP l eE (⟨0, 0, 0, 0⟩ : Room) sS mM #[(.ref b), (.int 0), (.ref t), (.int 0), (.int 3)] below meth cC s₁ [] 0 0 := Stand.of_body Bd
  have e0 : s₁.heap = h0 := by rw [← hh, Bd.state]; rfl
  have N0 := Fr.nil n0
  have pre0 : ∀ tg, Steps pP.tables eE below (s₁.setTop (mkF mM 0 #[.val (.ref b), .val (.int 0), .val (.ref t), .val (.int 0), .val (.int 3), .unset, .unset] [])) tg → Steps pP.tables eE below (s₁.setTop (entryFrame mM #[(.ref b), (.int 0), (.ref t), (.int 0), (.int 3)] 7)) tg := fun tg kg => castTop (ef_cm3 mM b (0 : Int32) t (0 : Int32) (3 : Int32)) kg
  have K0 : Keep h0 h0 [t] := Keep.refl _ _
  obtain ⟨cl1, Ar1, -, S1, Nn1, Hh1, -⟩ := id V_b
  have hin1 : ¬ ((0 : Int32) < 0 ∨ cl1.slots.size ≤ ((0 : Int32)).toNatClampNeg) := inb_of S1 ⟨by decide, by decide⟩
  have hat1 : cl1.slots[((0 : Int32)).toNatClampNeg]? = some (.int c0) := Hh1.at hin1 rfl
  have pre3 : ∀ tg, Steps pP.tables eE below (s₁.setTop (mkF mM 20 #[.val (.ref b), .val (.int 0), .val (.ref t), .val (.int 0), .val (.int 3), .val (.int 0), .val (.int c0)] [(.int 255), (.int c0)])) tg → Steps pP.tables eE below (s₁.setTop (entryFrame mM #[(.ref b), (.int 0), (.ref t), (.int 0), (.int 3)] 7)) tg := fun tg kg => pre0 tg (by
    refine XS.iconst X0.here hx rfl (hb hby dj52_21_0) ?_
    show Steps _ _ _ (s₁.setTop (mkF mM 1 #[.val (.ref b), .val (.int 0), .val (.ref t), .val (.int 0), .val (.int 3), .unset, .unset] [(.int 0)])) _
    refine XS.istore X0.here hx rfl (hb hby dj52_21_1) rfl (l' := #[.val (.ref b), .val (.int 0), .val (.ref t), .val (.int 0), .val (.int 3), .val (.int 0), .unset]) rfl ?_
    show Steps _ _ _ (s₁.setTop (mkF mM 3 #[.val (.ref b), .val (.int 0), .val (.ref t), .val (.int 0), .val (.int 3), .val (.int 0), .unset] [])) _
    refine XS.iload X0.here hx rfl (hb hby dj52_21_3) rfl ?_
    show Steps _ _ _ (s₁.setTop (mkF mM 5 #[.val (.ref b), .val (.int 0), .val (.ref t), .val (.int 0), .val (.int 3), .val (.int 0), .unset] [(.int 0)])) _
    refine XS.iload X0.here hx rfl (hb hby dj52_21_5) rfl ?_
    show Steps _ _ _ (s₁.setTop (mkF mM 7 #[.val (.ref b), .val (.int 0), .val (.ref t), .val (.int 0), .val (.int 3), .val (.int 0), .unset] [(.int 3), (.int 0)])) _
    refine XS.icmpNo X0.here hx rfl (hb hby dj52_21_7) rfl (tlt (by decide : (0 : Int32) < (3 : Int32))).2.1 ?_
    show Steps _ _ _ (s₁.setTop (mkF mM 10 #[.val (.ref b), .val (.int 0), .val (.ref t), .val (.int 0), .val (.int 3), .val (.int 0), .unset] [])) _
    refine XS.aloadN X0.here hx rfl (hb hby dj52_21_10) rfl rfl ?_
    show Steps _ _ _ (s₁.setTop (mkF mM 11 #[.val (.ref b), .val (.int 0), .val (.ref t), .val (.int 0), .val (.int 3), .val (.int 0), .unset] [(.ref b)])) _
    refine XS.iloadN X0.here hx rfl (hb hby dj52_21_11) rfl ?_
    show Steps _ _ _ (s₁.setTop (mkF mM 12 #[.val (.ref b), .val (.int 0), .val (.ref t), .val (.int 0), .val (.int 3), .val (.int 0), .unset] [(.int 0), (.ref b)])) _
    refine X0.caload hx (j := (0 : Int32)) (v := (.int c0)) (by rw [e0]; exact Ar1.1) (State.isArrayOf_alike hZ.alike Ar1.2.1) Ar1.2.2 hin1 hat1 (g := (mkF mM 12 #[.val (.ref b), .val (.int 0), .val (.ref t), .val (.int 0), .val (.int 3), .val (.int 0), .unset] [(.int 0), (.ref b)])) rfl rfl (hb hby dj52_21_12) _ ?_
    show Steps _ _ _ (s₁.setTop (mkF mM 13 #[.val (.ref b), .val (.int 0), .val (.ref t), .val (.int 0), .val (.int 3), .val (.int 0), .unset] [(.int c0)])) _
    refine XS.istore X0.here hx rfl (hb hby dj52_21_13) rfl (l' := #[.val (.ref b), .val (.int 0), .val (.ref t), .val (.int 0), .val (.int 3), .val (.int 0), .val (.int c0)]) rfl ?_
    show Steps _ _ _ (s₁.setTop (mkF mM 15 #[.val (.ref b), .val (.int 0), .val (.ref t), .val (.int 0), .val (.int 3), .val (.int 0), .val (.int c0)] [])) _
    refine XS.iload X0.here hx rfl (hb hby dj52_21_15) rfl ?_
    show Steps _ _ _ (s₁.setTop (mkF mM 17 #[.val (.ref b), .val (.int 0), .val (.ref t), .val (.int 0), .val (.int 3), .val (.int 0), .val (.int c0)] [(.int c0)])) _
    refine XS.sipush X0.here hx rfl (hb hby dj52_21_17) ?_
    exact kg)
  by_cases hc2 : (255 : Int32) < c0
  · obtain ⟨fs, hr, hrun, hended, hW, hsame⟩ := X0.leave (v := some (.int 0)) (fun h => by rw [Bd.returns] at h; cases h)
    refine ⟨_, _, pre3 _ ?_, hrun, hended, _, _, rfl, ?_, ⟨_, rfl⟩, hW, hsame.mono (by decide) (by decide)⟩
    · refine XS.icmpNo X0.here hx rfl (hb hby dj52_21_20) rfl (tlt hc2).2.2.2 ?_
      show Steps _ _ _ (s₁.setTop (mkF mM 23 #[.val (.ref b), .val (.int 0), .val (.ref t), .val (.int 0), .val (.int 3), .val (.int 0), .val (.int c0)] [])) _
      refine XS.iload X0.here hx rfl (hb hby dj52_21_23) rfl ?_
      show Steps _ _ _ (s₁.setTop (mkF mM 25 #[.val (.ref b), .val (.int 0), .val (.ref t), .val (.int 0), .val (.int 3), .val (.int 0), .val (.int c0)] [(.int 0)])) _
      exact retI X0 hx Bd.returns (hb hby dj52_21_25) hr
    · show Q_cm3 Z b kb t k c0 c1 c2 h0 n0 _ s₁.heap _
      rw [e0]
      exact ⟨[(.int 0), (.int 0), (.int 0)], (by rw [show (own_fi ([c0, c1, c2] : List Int32)) = 0 from by simp only [own_fi, if_pos hc2]]; rfl), N0, K0, V_t⟩
  · obtain ⟨cl5, Ar5, qk5, S5, Nn5, Hh5, G5⟩ := id V_t
    have hin5 : ¬ ((0 : Int32) < 0 ∨ cl5.slots.size ≤ ((0 : Int32)).toNatClampNeg) := inb_of S5 ⟨by decide, by decide⟩
    obtain ⟨T5, h5, X5, e5, W5, st5⟩ := stB X0 hx hZ e0 Ar5 (j := (0 : Int32)) hin5 (g := (mkF mM 31 #[.val (.ref b), .val (.int 0), .val (.ref t), .val (.int 0), .val (.int 3), .val (.int 0), .val (.int c0)] [(.int (c0.toInt8.toInt32)), (.int 0), (.ref t)])) rfl rfl (hb hby dj52_21_31)
    rw [own_narb c0] at W5
    have K6 : Keep h0 h5 [t] := K0.wr W5 (Or.inl (List.mem_of_getElem? (i := 0) rfl))
    have V5 : Arv Z h5 t k .byte (3 : Int32) [(.int (c0.toInt8.toInt32)), (.int 0), (.int 0)] (.int 0) := Arv.set Ar5 qk5 S5 Nn5 Hh5 G5 (own_narb c0 ▸ fits_nar_byte _) W5 0 rfl (Nat.le_of_ble_eq_true rfl)
    have N5 := Fr.snoc X5 N0 g_t
    have f8 := (V_b.other W5 ne3)
    obtain ⟨cl7, Ar7, -, S7, Nn7, Hh7, -⟩ := id f8
    have hin7 : ¬ ((1 : Int32) < 0 ∨ cl7.slots.size ≤ ((1 : Int32)).toNatClampNeg) := inb_of S7 ⟨by decide, by decide⟩
    have hat7 : cl7.slots[((1 : Int32)).toNatClampNeg]? = some (.int c1) := Hh7.at hin7 rfl
    have pre10 : ∀ tg, Steps pP.tables eE below (T5.setTop (mkF mM 20 #[.val (.ref b), .val (.int 1), .val (.ref t), .val (.int 1), .val (.int 3), .val (.int 1), .val (.int c1)] [(.int 255), (.int c1)])) tg → Steps pP.tables eE below (s₁.setTop (entryFrame mM #[(.ref b), (.int 0), (.ref t), (.int 0), (.int 3)] 7)) tg := fun tg kg => pre3 tg (by
      refine XS.icmpYes X0.here hx rfl (pc0 := 20) (pc' := 26) rfl (hb hby dj52_21_20) rfl (flt hc2).2.2.2 (by decide) (by decide) ?_
      show Steps _ _ _ (s₁.setTop (mkF mM 26 #[.val (.ref b), .val (.int 0), .val (.ref t), .val (.int 0), .val (.int 3), .val (.int 0), .val (.int c0)] [])) _
      refine XS.aloadN X0.here hx rfl (hb hby dj52_21_26) rfl rfl ?_
      show Steps _ _ _ (s₁.setTop (mkF mM 27 #[.val (.ref b), .val (.int 0), .val (.ref t), .val (.int 0), .val (.int 3), .val (.int 0), .val (.int c0)] [(.ref t)])) _
      refine XS.iloadN X0.here hx rfl (hb hby dj52_21_27) rfl ?_
      show Steps _ _ _ (s₁.setTop (mkF mM 28 #[.val (.ref b), .val (.int 0), .val (.ref t), .val (.int 0), .val (.int 3), .val (.int 0), .val (.int c0)] [(.int 0), (.ref t)])) _
      refine XS.iload X0.here hx rfl (hb hby dj52_21_28) rfl ?_
      show Steps _ _ _ (s₁.setTop (mkF mM 30 #[.val (.ref b), .val (.int 0), .val (.ref t), .val (.int 0), .val (.int 3), .val (.int 0), .val (.int c0)] [(.int c0), (.int 0), (.ref t)])) _
      refine XS.i2b X0.here hx rfl (hb hby dj52_21_30) rfl ?_
      show Steps _ _ _ (s₁.setTop (mkF mM 31 #[.val (.ref b), .val (.int 0), .val (.ref t), .val (.int 0), .val (.int 3), .val (.int 0), .val (.int c0)] [(.int (c0.toInt8.toInt32)), (.int 0), (.ref t)])) _
      refine st5 _ ?_
      show Steps _ _ _ (T5.setTop (mkF mM 32 #[.val (.ref b), .val (.int 0), .val (.ref t), .val (.int 0), .val (.int 3), .val (.int 0), .val (.int c0)] [])) _
      refine XS.iinc X5.here hx rfl (hb hby dj52_21_32) rfl (l' := #[.val (.ref b), .val (.int 1), .val (.ref t), .val (.int 0), .val (.int 3), .val (.int 0), .val (.int c0)]) rfl ?_
      show Steps _ _ _ (T5.setTop (mkF mM 35 #[.val (.ref b), .val (.int 1), .val (.ref t), .val (.int 0), .val (.int 3), .val (.int 0), .val (.int c0)] [])) _
      refine XS.iinc X5.here hx rfl (hb hby dj52_21_35) rfl (l' := #[.val (.ref b), .val (.int 1), .val (.ref t), .val (.int 1), .val (.int 3), .val (.int 0), .val (.int c0)]) rfl ?_
      show Steps _ _ _ (T5.setTop (mkF mM 38 #[.val (.ref b), .val (.int 1), .val (.ref t), .val (.int 1), .val (.int 3), .val (.int 0), .val (.int c0)] [])) _
      refine XS.iinc X5.here hx rfl (hb hby dj52_21_38) rfl (l' := #[.val (.ref b), .val (.int 1), .val (.ref t), .val (.int 1), .val (.int 3), .val (.int 1), .val (.int c0)]) rfl ?_
      show Steps _ _ _ (T5.setTop (mkF mM 41 #[.val (.ref b), .val (.int 1), .val (.ref t), .val (.int 1), .val (.int 3), .val (.int 1), .val (.int c0)] [])) _
      refine XS.goto X5.here hx rfl (pc0 := 41) (pc' := 3) rfl (hb hby dj52_21_41) (by decide) (by decide) ?_
      show Steps _ _ _ (T5.setTop (mkF mM 3 #[.val (.ref b), .val (.int 1), .val (.ref t), .val (.int 1), .val (.int 3), .val (.int 1), .val (.int c0)] [])) _
      refine XS.iload X5.here hx rfl (hb hby dj52_21_3) rfl ?_
      show Steps _ _ _ (T5.setTop (mkF mM 5 #[.val (.ref b), .val (.int 1), .val (.ref t), .val (.int 1), .val (.int 3), .val (.int 1), .val (.int c0)] [(.int 1)])) _
      refine XS.iload X5.here hx rfl (hb hby dj52_21_5) rfl ?_
      show Steps _ _ _ (T5.setTop (mkF mM 7 #[.val (.ref b), .val (.int 1), .val (.ref t), .val (.int 1), .val (.int 3), .val (.int 1), .val (.int c0)] [(.int 3), (.int 1)])) _
      refine XS.icmpNo X5.here hx rfl (hb hby dj52_21_7) rfl (tlt (by decide : (1 : Int32) < (3 : Int32))).2.1 ?_
      show Steps _ _ _ (T5.setTop (mkF mM 10 #[.val (.ref b), .val (.int 1), .val (.ref t), .val (.int 1), .val (.int 3), .val (.int 1), .val (.int c0)] [])) _
      refine XS.aloadN X5.here hx rfl (hb hby dj52_21_10) rfl rfl ?_
      show Steps _ _ _ (T5.setTop (mkF mM 11 #[.val (.ref b), .val (.int 1), .val (.ref t), .val (.int 1), .val (.int 3), .val (.int 1), .val (.int c0)] [(.ref b)])) _
      refine XS.iloadN X5.here hx rfl (hb hby dj52_21_11) rfl ?_
      show Steps _ _ _ (T5.setTop (mkF mM 12 #[.val (.ref b), .val (.int 1), .val (.ref t), .val (.int 1), .val (.int 3), .val (.int 1), .val (.int c0)] [(.int 1), (.ref b)])) _
      refine X5.caload hx (j := (1 : Int32)) (v := (.int c1)) (by rw [e5]; exact Ar7.1) (State.isArrayOf_alike hZ.alike Ar7.2.1) Ar7.2.2 hin7 hat7 (g := (mkF mM 12 #[.val (.ref b), .val (.int 1), .val (.ref t), .val (.int 1), .val (.int 3), .val (.int 1), .val (.int c0)] [(.int 1), (.ref b)])) rfl rfl (hb hby dj52_21_12) _ ?_
      show Steps _ _ _ (T5.setTop (mkF mM 13 #[.val (.ref b), .val (.int 1), .val (.ref t), .val (.int 1), .val (.int 3), .val (.int 1), .val (.int c0)] [(.int c1)])) _
      refine XS.istore X5.here hx rfl (hb hby dj52_21_13) rfl (l' := #[.val (.ref b), .val (.int 1), .val (.ref t), .val (.int 1), .val (.int 3), .val (.int 1), .val (.int c1)]) rfl ?_
      show Steps _ _ _ (T5.setTop (mkF mM 15 #[.val (.ref b), .val (.int 1), .val (.ref t), .val (.int 1), .val (.int 3), .val (.int 1), .val (.int c1)] [])) _
      refine XS.iload X5.here hx rfl (hb hby dj52_21_15) rfl ?_
      show Steps _ _ _ (T5.setTop (mkF mM 17 #[.val (.ref b), .val (.int 1), .val (.ref t), .val (.int 1), .val (.int 3), .val (.int 1), .val (.int c1)] [(.int c1)])) _
      refine XS.sipush X5.here hx rfl (hb hby dj52_21_17) ?_
      exact kg)
    by_cases hc9 : (255 : Int32) < c1
    · obtain ⟨fs, hr, hrun, hended, hW, hsame⟩ := X5.leave (v := some (.int 1)) (fun h => by rw [Bd.returns] at h; cases h)
      refine ⟨_, _, pre10 _ ?_, hrun, hended, _, _, rfl, ?_, ⟨_, rfl⟩, hW, hsame.mono (by decide) (by decide)⟩
      · refine XS.icmpNo X5.here hx rfl (hb hby dj52_21_20) rfl (tlt hc9).2.2.2 ?_
        show Steps _ _ _ (T5.setTop (mkF mM 23 #[.val (.ref b), .val (.int 1), .val (.ref t), .val (.int 1), .val (.int 3), .val (.int 1), .val (.int c1)] [])) _
        refine XS.iload X5.here hx rfl (hb hby dj52_21_23) rfl ?_
        show Steps _ _ _ (T5.setTop (mkF mM 25 #[.val (.ref b), .val (.int 1), .val (.ref t), .val (.int 1), .val (.int 3), .val (.int 1), .val (.int c1)] [(.int 1)])) _
        exact retI X5 hx Bd.returns (hb hby dj52_21_25) hr
      · show Q_cm3 Z b kb t k c0 c1 c2 h0 n0 _ T5.heap _
        rw [e5]
        exact ⟨[(.int (c0.toInt8.toInt32)), (.int 0), (.int 0)], (by rw [show (own_fi ([c0, c1, c2] : List Int32)) = 1 from by simp only [own_fi, if_neg hc2, if_pos hc9]]; rfl), N5, K6, V5⟩
    · obtain ⟨cl12, Ar12, qk12, S12, Nn12, Hh12, G12⟩ := id V5
      have hin12 : ¬ ((1 : Int32) < 0 ∨ cl12.slots.size ≤ ((1 : Int32)).toNatClampNeg) := inb_of S12 ⟨by decide, by decide⟩
      obtain ⟨T12, h12, X12, e12, W12, st12⟩ := stB X5 hx hZ e5 Ar12 (j := (1 : Int32)) hin12 (g := (mkF mM 31 #[.val (.ref b), .val (.int 1), .val (.ref t), .val (.int 1), .val (.int 3), .val (.int 1), .val (.int c1)] [(.int (c1.toInt8.toInt32)), (.int 1), (.ref t)])) rfl rfl (hb hby dj52_21_31)
      rw [own_narb c1] at W12
      have K13 : Keep h0 h12 [t] := K6.wr W12 (Or.inl (List.mem_of_getElem? (i := 0) rfl))
      have V12 : Arv Z h12 t k .byte (3 : Int32) [(.int (c0.toInt8.toInt32)), (.int (c1.toInt8.toInt32)), (.int 0)] (.int 0) := Arv.set Ar12 qk12 S12 Nn12 Hh12 G12 (own_narb c1 ▸ fits_nar_byte _) W12 1 rfl (Nat.le_of_ble_eq_true rfl)
      have N12 := Fr.snoc X12 N5 g_t
      have f15 := (f8.other W12 ne3)
      obtain ⟨cl14, Ar14, -, S14, Nn14, Hh14, -⟩ := id f15
      have hin14 : ¬ ((2 : Int32) < 0 ∨ cl14.slots.size ≤ ((2 : Int32)).toNatClampNeg) := inb_of S14 ⟨by decide, by decide⟩
      have hat14 : cl14.slots[((2 : Int32)).toNatClampNeg]? = some (.int c2) := Hh14.at hin14 rfl
      have pre17 : ∀ tg, Steps pP.tables eE below (T12.setTop (mkF mM 20 #[.val (.ref b), .val (.int 2), .val (.ref t), .val (.int 2), .val (.int 3), .val (.int 2), .val (.int c2)] [(.int 255), (.int c2)])) tg → Steps pP.tables eE below (s₁.setTop (entryFrame mM #[(.ref b), (.int 0), (.ref t), (.int 0), (.int 3)] 7)) tg := fun tg kg => pre10 tg (by
        refine XS.icmpYes X5.here hx rfl (pc0 := 20) (pc' := 26) rfl (hb hby dj52_21_20) rfl (flt hc9).2.2.2 (by decide) (by decide) ?_
        show Steps _ _ _ (T5.setTop (mkF mM 26 #[.val (.ref b), .val (.int 1), .val (.ref t), .val (.int 1), .val (.int 3), .val (.int 1), .val (.int c1)] [])) _
        refine XS.aloadN X5.here hx rfl (hb hby dj52_21_26) rfl rfl ?_
        show Steps _ _ _ (T5.setTop (mkF mM 27 #[.val (.ref b), .val (.int 1), .val (.ref t), .val (.int 1), .val (.int 3), .val (.int 1), .val (.int c1)] [(.ref t)])) _
        refine XS.iloadN X5.here hx rfl (hb hby dj52_21_27) rfl ?_
        show Steps _ _ _ (T5.setTop (mkF mM 28 #[.val (.ref b), .val (.int 1), .val (.ref t), .val (.int 1), .val (.int 3), .val (.int 1), .val (.int c1)] [(.int 1), (.ref t)])) _
        refine XS.iload X5.here hx rfl (hb hby dj52_21_28) rfl ?_
        show Steps _ _ _ (T5.setTop (mkF mM 30 #[.val (.ref b), .val (.int 1), .val (.ref t), .val (.int 1), .val (.int 3), .val (.int 1), .val (.int c1)] [(.int c1), (.int 1), (.ref t)])) _
        refine XS.i2b X5.here hx rfl (hb hby dj52_21_30) rfl ?_
        show Steps _ _ _ (T5.setTop (mkF mM 31 #[.val (.ref b), .val (.int 1), .val (.ref t), .val (.int 1), .val (.int 3), .val (.int 1), .val (.int c1)] [(.int (c1.toInt8.toInt32)), (.int 1), (.ref t)])) _
        refine st12 _ ?_
        show Steps _ _ _ (T12.setTop (mkF mM 32 #[.val (.ref b), .val (.int 1), .val (.ref t), .val (.int 1), .val (.int 3), .val (.int 1), .val (.int c1)] [])) _
        refine XS.iinc X12.here hx rfl (hb hby dj52_21_32) rfl (l' := #[.val (.ref b), .val (.int 2), .val (.ref t), .val (.int 1), .val (.int 3), .val (.int 1), .val (.int c1)]) rfl ?_
        show Steps _ _ _ (T12.setTop (mkF mM 35 #[.val (.ref b), .val (.int 2), .val (.ref t), .val (.int 1), .val (.int 3), .val (.int 1), .val (.int c1)] [])) _
        refine XS.iinc X12.here hx rfl (hb hby dj52_21_35) rfl (l' := #[.val (.ref b), .val (.int 2), .val (.ref t), .val (.int 2), .val (.int 3), .val (.int 1), .val (.int c1)]) rfl ?_
        show Steps _ _ _ (T12.setTop (mkF mM 38 #[.val (.ref b), .val (.int 2), .val (.ref t), .val (.int 2), .val (.int 3), .val (.int 1), .val (.int c1)] [])) _
        refine XS.iinc X12.here hx rfl (hb hby dj52_21_38) rfl (l' := #[.val (.ref b), .val (.int 2), .val (.ref t), .val (.int 2), .val (.int 3), .val (.int 2), .val (.int c1)]) rfl ?_
        show Steps _ _ _ (T12.setTop (mkF mM 41 #[.val (.ref b), .val (.int 2), .val (.ref t), .val (.int 2), .val (.int 3), .val (.int 2), .val (.int c1)] [])) _
        refine XS.goto X12.here hx rfl (pc0 := 41) (pc' := 3) rfl (hb hby dj52_21_41) (by decide) (by decide) ?_
        show Steps _ _ _ (T12.setTop (mkF mM 3 #[.val (.ref b), .val (.int 2), .val (.ref t), .val (.int 2), .val (.int 3), .val (.int 2), .val (.int c1)] [])) _
        refine XS.iload X12.here hx rfl (hb hby dj52_21_3) rfl ?_
        show Steps _ _ _ (T12.setTop (mkF mM 5 #[.val (.ref b), .val (.int 2), .val (.ref t), .val (.int 2), .val (.int 3), .val (.int 2), .val (.int c1)] [(.int 2)])) _
        refine XS.iload X12.here hx rfl (hb hby dj52_21_5) rfl ?_
        show Steps _ _ _ (T12.setTop (mkF mM 7 #[.val (.ref b), .val (.int 2), .val (.ref t), .val (.int 2), .val (.int 3), .val (.int 2), .val (.int c1)] [(.int 3), (.int 2)])) _
        refine XS.icmpNo X12.here hx rfl (hb hby dj52_21_7) rfl (tlt (by decide : (2 : Int32) < (3 : Int32))).2.1 ?_
        show Steps _ _ _ (T12.setTop (mkF mM 10 #[.val (.ref b), .val (.int 2), .val (.ref t), .val (.int 2), .val (.int 3), .val (.int 2), .val (.int c1)] [])) _
        refine XS.aloadN X12.here hx rfl (hb hby dj52_21_10) rfl rfl ?_
        show Steps _ _ _ (T12.setTop (mkF mM 11 #[.val (.ref b), .val (.int 2), .val (.ref t), .val (.int 2), .val (.int 3), .val (.int 2), .val (.int c1)] [(.ref b)])) _
        refine XS.iloadN X12.here hx rfl (hb hby dj52_21_11) rfl ?_
        show Steps _ _ _ (T12.setTop (mkF mM 12 #[.val (.ref b), .val (.int 2), .val (.ref t), .val (.int 2), .val (.int 3), .val (.int 2), .val (.int c1)] [(.int 2), (.ref b)])) _
        refine X12.caload hx (j := (2 : Int32)) (v := (.int c2)) (by rw [e12]; exact Ar14.1) (State.isArrayOf_alike hZ.alike Ar14.2.1) Ar14.2.2 hin14 hat14 (g := (mkF mM 12 #[.val (.ref b), .val (.int 2), .val (.ref t), .val (.int 2), .val (.int 3), .val (.int 2), .val (.int c1)] [(.int 2), (.ref b)])) rfl rfl (hb hby dj52_21_12) _ ?_
        show Steps _ _ _ (T12.setTop (mkF mM 13 #[.val (.ref b), .val (.int 2), .val (.ref t), .val (.int 2), .val (.int 3), .val (.int 2), .val (.int c1)] [(.int c2)])) _
        refine XS.istore X12.here hx rfl (hb hby dj52_21_13) rfl (l' := #[.val (.ref b), .val (.int 2), .val (.ref t), .val (.int 2), .val (.int 3), .val (.int 2), .val (.int c2)]) rfl ?_
        show Steps _ _ _ (T12.setTop (mkF mM 15 #[.val (.ref b), .val (.int 2), .val (.ref t), .val (.int 2), .val (.int 3), .val (.int 2), .val (.int c2)] [])) _
        refine XS.iload X12.here hx rfl (hb hby dj52_21_15) rfl ?_
        show Steps _ _ _ (T12.setTop (mkF mM 17 #[.val (.ref b), .val (.int 2), .val (.ref t), .val (.int 2), .val (.int 3), .val (.int 2), .val (.int c2)] [(.int c2)])) _
        refine XS.sipush X12.here hx rfl (hb hby dj52_21_17) ?_
        exact kg)
      by_cases hc16 : (255 : Int32) < c2
      · obtain ⟨fs, hr, hrun, hended, hW, hsame⟩ := X12.leave (v := some (.int 2)) (fun h => by rw [Bd.returns] at h; cases h)
        refine ⟨_, _, pre17 _ ?_, hrun, hended, _, _, rfl, ?_, ⟨_, rfl⟩, hW, hsame.mono (by decide) (by decide)⟩
        · refine XS.icmpNo X12.here hx rfl (hb hby dj52_21_20) rfl (tlt hc16).2.2.2 ?_
          show Steps _ _ _ (T12.setTop (mkF mM 23 #[.val (.ref b), .val (.int 2), .val (.ref t), .val (.int 2), .val (.int 3), .val (.int 2), .val (.int c2)] [])) _
          refine XS.iload X12.here hx rfl (hb hby dj52_21_23) rfl ?_
          show Steps _ _ _ (T12.setTop (mkF mM 25 #[.val (.ref b), .val (.int 2), .val (.ref t), .val (.int 2), .val (.int 3), .val (.int 2), .val (.int c2)] [(.int 2)])) _
          exact retI X12 hx Bd.returns (hb hby dj52_21_25) hr
        · show Q_cm3 Z b kb t k c0 c1 c2 h0 n0 _ T12.heap _
          rw [e12]
          exact ⟨[(.int (c0.toInt8.toInt32)), (.int (c1.toInt8.toInt32)), (.int 0)], (by rw [show (own_fi ([c0, c1, c2] : List Int32)) = 2 from by simp only [own_fi, if_neg hc2, if_neg hc9, if_pos hc16]]; rfl), N12, K13, V12⟩
      · obtain ⟨cl19, Ar19, qk19, S19, Nn19, Hh19, G19⟩ := id V12
        have hin19 : ¬ ((2 : Int32) < 0 ∨ cl19.slots.size ≤ ((2 : Int32)).toNatClampNeg) := inb_of S19 ⟨by decide, by decide⟩
        obtain ⟨T19, h19, X19, e19, W19, st19⟩ := stB X12 hx hZ e12 Ar19 (j := (2 : Int32)) hin19 (g := (mkF mM 31 #[.val (.ref b), .val (.int 2), .val (.ref t), .val (.int 2), .val (.int 3), .val (.int 2), .val (.int c2)] [(.int (c2.toInt8.toInt32)), (.int 2), (.ref t)])) rfl rfl (hb hby dj52_21_31)
        rw [own_narb c2] at W19
        have K20 : Keep h0 h19 [t] := K13.wr W19 (Or.inl (List.mem_of_getElem? (i := 0) rfl))
        have V19 : Arv Z h19 t k .byte (3 : Int32) [(.int (c0.toInt8.toInt32)), (.int (c1.toInt8.toInt32)), (.int (c2.toInt8.toInt32))] (.int 0) := Arv.set Ar19 qk19 S19 Nn19 Hh19 G19 (own_narb c2 ▸ fits_nar_byte _) W19 2 rfl (Nat.le_of_ble_eq_true rfl)
        have N19 := Fr.snoc X19 N12 g_t
        exact absurd hp4 (by simp only [own_fi, if_neg hc2, if_neg hc9, if_neg hc16]; decide)
theorem ef_cm4 (m : MethodId) (x0 : Addr) (x1 : Int32) (x2 : Addr) (x3 : Int32) (x4 : Int32) : entryFrame m #[(.ref x0), (.int x1), (.ref x2), (.int x3), (.int x4)] 7 = mkF m 0 #[.val (.ref x0), .val (.int x1), .val (.ref x2), .val (.int x3), .val (.int x4), .unset, .unset] [] := by first | (simp [entryFrame, mkF, argsToLocals, Value.category]; done) | rfl
def Q_cm4 (Z : State) (b : Addr) (kb : ClassId) (t : Addr) (k : ClassId) (c0 : Int32) (c1 : Int32) (c2 : Int32) (c3 : Int32) (h0 : Heap) (n0 : Nat) (vV : Option Value) (h : Heap) (LL : List Loc) : Prop := ∃ (vs : List Value), vV = some (.int (Int32.ofNat (own_fi ([c0, c1, c2, c3] : List Int32)))) ∧ Fr n0 LL ∧ Keep h0 h [t] ∧ Arv Z h t k .byte (4 : Int32) vs (.int 0)
set_option maxRecDepth 65536 in
set_option maxHeartbeats 40000000 in
theorem rm_cm4 (l : Launch) (Z : State) (a0 : Array Value) (hw : ∀ d ∈ tables_1, d.before a0 Z = true) (ws : List Jvm.Cond) (b : Addr) (kb : ClassId) (t : Addr) (k : ClassId) (c0 : Int32) (c1 : Int32) (c2 : Int32) (c3 : Int32) (h0 : Heap) (n0 : Nat) (O0 : Old Z n0 h0) (V_b : Arv Z h0 b kb .char (4 : Int32) [(.int c0), (.int c1), (.int c2), (.int c3)] (.int 0)) (V_t : Arv Z h0 t k .byte (4 : Int32) [(.int 0), (.int 0), (.int 0), (.int 0)] (.int 0)) (g_t : n0 ≤ t) (ne3 : b ≠ t) (hp4 : ((own_fi ([c0, c1, c2, c3] : List Int32)) < 4)) :
    MetFree l (⟨"java/lang/StringUTF16", "compress", "([CI[BII)I"⟩ : MethodName) (head1 (Jvm.Cond.code (⟨"java/lang/StringUTF16", "compress", "([CI[BII)I"⟩ : MethodName) jdk_52_method_21_code 7 (some .int) :: ws) (⟨0, 0, 0, 0⟩ : Room)) (fun aa_ U => aa_ = #[(.ref b), (.int 0), (.ref t), (.int 0), (.int 4)] ∧ Z.Warmed39 U.vm ∧ U.heap = h0) (fun _ _ _ _ _ => True) (fun _ U o U' => ∃ vV LL, o = .returned vV ∧ Q_cm4 Z b kb t k c0 c1 c2 c3 h0 n0 vV U'.heap LL ∧ FrameEnd U o U' LL (⟨0, 0, 0, 0⟩ : Room).cells (⟨0, 0, 0, 0⟩ : Room).slots) := by
  refine MetFree.of_bodySF (plainFor_of_name pn_2) hisR ?_
  intro pP eE sS mM args below meth cC s₁ Bd hml0 hP hK
  obtain ⟨rfl, hZ, hh⟩ := hP
  have hx := Bd.exec
  have hby := Bd.bytes
  have hml : cC.maxLocals = 7 := hml0
  have hown : sS.vm.findClass "java/lang/StringUTF16" = some mM.cls := findClass_of_methodNamed Bd.named
  have hnm := (name_of_methodNamed Bd.named Bd.method).1
  have X0 : Stand pP l eE (⟨0, 0, 0, 0⟩ : Room) sS mM #[(.ref b), (.int 0), (.ref t), (.int 0), (.int 4)] below meth cC s₁ [] 0 0 := Stand.of_body Bd
  have e0 : s₁.heap = h0 := by rw [← hh, Bd.state]; rfl
  have N0 := Fr.nil n0
  have pre0 : ∀ tg, Steps pP.tables eE below (s₁.setTop (mkF mM 0 #[.val (.ref b), .val (.int 0), .val (.ref t), .val (.int 0), .val (.int 4), .unset, .unset] [])) tg → Steps pP.tables eE below (s₁.setTop (entryFrame mM #[(.ref b), (.int 0), (.ref t), (.int 0), (.int 4)] 7)) tg := fun tg kg => castTop (ef_cm4 mM b (0 : Int32) t (0 : Int32) (4 : Int32)) kg
  have K0 : Keep h0 h0 [t] := Keep.refl _ _
  obtain ⟨cl1, Ar1, -, S1, Nn1, Hh1, -⟩ := id V_b
  have hin1 : ¬ ((0 : Int32) < 0 ∨ cl1.slots.size ≤ ((0 : Int32)).toNatClampNeg) := inb_of S1 ⟨by decide, by decide⟩
  have hat1 : cl1.slots[((0 : Int32)).toNatClampNeg]? = some (.int c0) := Hh1.at hin1 rfl
  have pre3 : ∀ tg, Steps pP.tables eE below (s₁.setTop (mkF mM 20 #[.val (.ref b), .val (.int 0), .val (.ref t), .val (.int 0), .val (.int 4), .val (.int 0), .val (.int c0)] [(.int 255), (.int c0)])) tg → Steps pP.tables eE below (s₁.setTop (entryFrame mM #[(.ref b), (.int 0), (.ref t), (.int 0), (.int 4)] 7)) tg := fun tg kg => pre0 tg (by
    refine XS.iconst X0.here hx rfl (hb hby dj52_21_0) ?_
    show Steps _ _ _ (s₁.setTop (mkF mM 1 #[.val (.ref b), .val (.int 0), .val (.ref t), .val (.int 0), .val (.int 4), .unset, .unset] [(.int 0)])) _
    refine XS.istore X0.here hx rfl (hb hby dj52_21_1) rfl (l' := #[.val (.ref b), .val (.int 0), .val (.ref t), .val (.int 0), .val (.int 4), .val (.int 0), .unset]) rfl ?_
    show Steps _ _ _ (s₁.setTop (mkF mM 3 #[.val (.ref b), .val (.int 0), .val (.ref t), .val (.int 0), .val (.int 4), .val (.int 0), .unset] [])) _
    refine XS.iload X0.here hx rfl (hb hby dj52_21_3) rfl ?_
    show Steps _ _ _ (s₁.setTop (mkF mM 5 #[.val (.ref b), .val (.int 0), .val (.ref t), .val (.int 0), .val (.int 4), .val (.int 0), .unset] [(.int 0)])) _
    refine XS.iload X0.here hx rfl (hb hby dj52_21_5) rfl ?_
    show Steps _ _ _ (s₁.setTop (mkF mM 7 #[.val (.ref b), .val (.int 0), .val (.ref t), .val (.int 0), .val (.int 4), .val (.int 0), .unset] [(.int 4), (.int 0)])) _
    refine XS.icmpNo X0.here hx rfl (hb hby dj52_21_7) rfl (tlt (by decide : (0 : Int32) < (4 : Int32))).2.1 ?_
    show Steps _ _ _ (s₁.setTop (mkF mM 10 #[.val (.ref b), .val (.int 0), .val (.ref t), .val (.int 0), .val (.int 4), .val (.int 0), .unset] [])) _
    refine XS.aloadN X0.here hx rfl (hb hby dj52_21_10) rfl rfl ?_
    show Steps _ _ _ (s₁.setTop (mkF mM 11 #[.val (.ref b), .val (.int 0), .val (.ref t), .val (.int 0), .val (.int 4), .val (.int 0), .unset] [(.ref b)])) _
    refine XS.iloadN X0.here hx rfl (hb hby dj52_21_11) rfl ?_
    show Steps _ _ _ (s₁.setTop (mkF mM 12 #[.val (.ref b), .val (.int 0), .val (.ref t), .val (.int 0), .val (.int 4), .val (.int 0), .unset] [(.int 0), (.ref b)])) _
    refine X0.caload hx (j := (0 : Int32)) (v := (.int c0)) (by rw [e0]; exact Ar1.1) (State.isArrayOf_alike hZ.alike Ar1.2.1) Ar1.2.2 hin1 hat1 (g := (mkF mM 12 #[.val (.ref b), .val (.int 0), .val (.ref t), .val (.int 0), .val (.int 4), .val (.int 0), .unset] [(.int 0), (.ref b)])) rfl rfl (hb hby dj52_21_12) _ ?_
    show Steps _ _ _ (s₁.setTop (mkF mM 13 #[.val (.ref b), .val (.int 0), .val (.ref t), .val (.int 0), .val (.int 4), .val (.int 0), .unset] [(.int c0)])) _
    refine XS.istore X0.here hx rfl (hb hby dj52_21_13) rfl (l' := #[.val (.ref b), .val (.int 0), .val (.ref t), .val (.int 0), .val (.int 4), .val (.int 0), .val (.int c0)]) rfl ?_
    show Steps _ _ _ (s₁.setTop (mkF mM 15 #[.val (.ref b), .val (.int 0), .val (.ref t), .val (.int 0), .val (.int 4), .val (.int 0), .val (.int c0)] [])) _
    refine XS.iload X0.here hx rfl (hb hby dj52_21_15) rfl ?_
    show Steps _ _ _ (s₁.setTop (mkF mM 17 #[.val (.ref b), .val (.int 0), .val (.ref t), .val (.int 0), .val (.int 4), .val (.int 0), .val (.int c0)] [(.int c0)])) _
    refine XS.sipush X0.here hx rfl (hb hby dj52_21_17) ?_
    exact kg)
  by_cases hc2 : (255 : Int32) < c0
  · obtain ⟨fs, hr, hrun, hended, hW, hsame⟩ := X0.leave (v := some (.int 0)) (fun h => by rw [Bd.returns] at h; cases h)
    refine ⟨_, _, pre3 _ ?_, hrun, hended, _, _, rfl, ?_, ⟨_, rfl⟩, hW, hsame.mono (by decide) (by decide)⟩
    · refine XS.icmpNo X0.here hx rfl (hb hby dj52_21_20) rfl (tlt hc2).2.2.2 ?_
      show Steps _ _ _ (s₁.setTop (mkF mM 23 #[.val (.ref b), .val (.int 0), .val (.ref t), .val (.int 0), .val (.int 4), .val (.int 0), .val (.int c0)] [])) _
      refine XS.iload X0.here hx rfl (hb hby dj52_21_23) rfl ?_
      show Steps _ _ _ (s₁.setTop (mkF mM 25 #[.val (.ref b), .val (.int 0), .val (.ref t), .val (.int 0), .val (.int 4), .val (.int 0), .val (.int c0)] [(.int 0)])) _
      exact retI X0 hx Bd.returns (hb hby dj52_21_25) hr
    · show Q_cm4 Z b kb t k c0 c1 c2 c3 h0 n0 _ s₁.heap _
      rw [e0]
      exact ⟨[(.int 0), (.int 0), (.int 0), (.int 0)], (by rw [show (own_fi ([c0, c1, c2, c3] : List Int32)) = 0 from by simp only [own_fi, if_pos hc2]]; rfl), N0, K0, V_t⟩
  · obtain ⟨cl5, Ar5, qk5, S5, Nn5, Hh5, G5⟩ := id V_t
    have hin5 : ¬ ((0 : Int32) < 0 ∨ cl5.slots.size ≤ ((0 : Int32)).toNatClampNeg) := inb_of S5 ⟨by decide, by decide⟩
    obtain ⟨T5, h5, X5, e5, W5, st5⟩ := stB X0 hx hZ e0 Ar5 (j := (0 : Int32)) hin5 (g := (mkF mM 31 #[.val (.ref b), .val (.int 0), .val (.ref t), .val (.int 0), .val (.int 4), .val (.int 0), .val (.int c0)] [(.int (c0.toInt8.toInt32)), (.int 0), (.ref t)])) rfl rfl (hb hby dj52_21_31)
    rw [own_narb c0] at W5
    have K6 : Keep h0 h5 [t] := K0.wr W5 (Or.inl (List.mem_of_getElem? (i := 0) rfl))
    have V5 : Arv Z h5 t k .byte (4 : Int32) [(.int (c0.toInt8.toInt32)), (.int 0), (.int 0), (.int 0)] (.int 0) := Arv.set Ar5 qk5 S5 Nn5 Hh5 G5 (own_narb c0 ▸ fits_nar_byte _) W5 0 rfl (Nat.le_of_ble_eq_true rfl)
    have N5 := Fr.snoc X5 N0 g_t
    have f8 := (V_b.other W5 ne3)
    obtain ⟨cl7, Ar7, -, S7, Nn7, Hh7, -⟩ := id f8
    have hin7 : ¬ ((1 : Int32) < 0 ∨ cl7.slots.size ≤ ((1 : Int32)).toNatClampNeg) := inb_of S7 ⟨by decide, by decide⟩
    have hat7 : cl7.slots[((1 : Int32)).toNatClampNeg]? = some (.int c1) := Hh7.at hin7 rfl
    have pre10 : ∀ tg, Steps pP.tables eE below (T5.setTop (mkF mM 20 #[.val (.ref b), .val (.int 1), .val (.ref t), .val (.int 1), .val (.int 4), .val (.int 1), .val (.int c1)] [(.int 255), (.int c1)])) tg → Steps pP.tables eE below (s₁.setTop (entryFrame mM #[(.ref b), (.int 0), (.ref t), (.int 0), (.int 4)] 7)) tg := fun tg kg => pre3 tg (by
      refine XS.icmpYes X0.here hx rfl (pc0 := 20) (pc' := 26) rfl (hb hby dj52_21_20) rfl (flt hc2).2.2.2 (by decide) (by decide) ?_
      show Steps _ _ _ (s₁.setTop (mkF mM 26 #[.val (.ref b), .val (.int 0), .val (.ref t), .val (.int 0), .val (.int 4), .val (.int 0), .val (.int c0)] [])) _
      refine XS.aloadN X0.here hx rfl (hb hby dj52_21_26) rfl rfl ?_
      show Steps _ _ _ (s₁.setTop (mkF mM 27 #[.val (.ref b), .val (.int 0), .val (.ref t), .val (.int 0), .val (.int 4), .val (.int 0), .val (.int c0)] [(.ref t)])) _
      refine XS.iloadN X0.here hx rfl (hb hby dj52_21_27) rfl ?_
      show Steps _ _ _ (s₁.setTop (mkF mM 28 #[.val (.ref b), .val (.int 0), .val (.ref t), .val (.int 0), .val (.int 4), .val (.int 0), .val (.int c0)] [(.int 0), (.ref t)])) _
      refine XS.iload X0.here hx rfl (hb hby dj52_21_28) rfl ?_
      show Steps _ _ _ (s₁.setTop (mkF mM 30 #[.val (.ref b), .val (.int 0), .val (.ref t), .val (.int 0), .val (.int 4), .val (.int 0), .val (.int c0)] [(.int c0), (.int 0), (.ref t)])) _
      refine XS.i2b X0.here hx rfl (hb hby dj52_21_30) rfl ?_
      show Steps _ _ _ (s₁.setTop (mkF mM 31 #[.val (.ref b), .val (.int 0), .val (.ref t), .val (.int 0), .val (.int 4), .val (.int 0), .val (.int c0)] [(.int (c0.toInt8.toInt32)), (.int 0), (.ref t)])) _
      refine st5 _ ?_
      show Steps _ _ _ (T5.setTop (mkF mM 32 #[.val (.ref b), .val (.int 0), .val (.ref t), .val (.int 0), .val (.int 4), .val (.int 0), .val (.int c0)] [])) _
      refine XS.iinc X5.here hx rfl (hb hby dj52_21_32) rfl (l' := #[.val (.ref b), .val (.int 1), .val (.ref t), .val (.int 0), .val (.int 4), .val (.int 0), .val (.int c0)]) rfl ?_
      show Steps _ _ _ (T5.setTop (mkF mM 35 #[.val (.ref b), .val (.int 1), .val (.ref t), .val (.int 0), .val (.int 4), .val (.int 0), .val (.int c0)] [])) _
      refine XS.iinc X5.here hx rfl (hb hby dj52_21_35) rfl (l' := #[.val (.ref b), .val (.int 1), .val (.ref t), .val (.int 1), .val (.int 4), .val (.int 0), .val (.int c0)]) rfl ?_
      show Steps _ _ _ (T5.setTop (mkF mM 38 #[.val (.ref b), .val (.int 1), .val (.ref t), .val (.int 1), .val (.int 4), .val (.int 0), .val (.int c0)] [])) _
      refine XS.iinc X5.here hx rfl (hb hby dj52_21_38) rfl (l' := #[.val (.ref b), .val (.int 1), .val (.ref t), .val (.int 1), .val (.int 4), .val (.int 1), .val (.int c0)]) rfl ?_
      show Steps _ _ _ (T5.setTop (mkF mM 41 #[.val (.ref b), .val (.int 1), .val (.ref t), .val (.int 1), .val (.int 4), .val (.int 1), .val (.int c0)] [])) _
      refine XS.goto X5.here hx rfl (pc0 := 41) (pc' := 3) rfl (hb hby dj52_21_41) (by decide) (by decide) ?_
      show Steps _ _ _ (T5.setTop (mkF mM 3 #[.val (.ref b), .val (.int 1), .val (.ref t), .val (.int 1), .val (.int 4), .val (.int 1), .val (.int c0)] [])) _
      refine XS.iload X5.here hx rfl (hb hby dj52_21_3) rfl ?_
      show Steps _ _ _ (T5.setTop (mkF mM 5 #[.val (.ref b), .val (.int 1), .val (.ref t), .val (.int 1), .val (.int 4), .val (.int 1), .val (.int c0)] [(.int 1)])) _
      refine XS.iload X5.here hx rfl (hb hby dj52_21_5) rfl ?_
      show Steps _ _ _ (T5.setTop (mkF mM 7 #[.val (.ref b), .val (.int 1), .val (.ref t), .val (.int 1), .val (.int 4), .val (.int 1), .val (.int c0)] [(.int 4), (.int 1)])) _
      refine XS.icmpNo X5.here hx rfl (hb hby dj52_21_7) rfl (tlt (by decide : (1 : Int32) < (4 : Int32))).2.1 ?_
      show Steps _ _ _ (T5.setTop (mkF mM 10 #[.val (.ref b), .val (.int 1), .val (.ref t), .val (.int 1), .val (.int 4), .val (.int 1), .val (.int c0)] [])) _
      refine XS.aloadN X5.here hx rfl (hb hby dj52_21_10) rfl rfl ?_
      show Steps _ _ _ (T5.setTop (mkF mM 11 #[.val (.ref b), .val (.int 1), .val (.ref t), .val (.int 1), .val (.int 4), .val (.int 1), .val (.int c0)] [(.ref b)])) _
      refine XS.iloadN X5.here hx rfl (hb hby dj52_21_11) rfl ?_
      show Steps _ _ _ (T5.setTop (mkF mM 12 #[.val (.ref b), .val (.int 1), .val (.ref t), .val (.int 1), .val (.int 4), .val (.int 1), .val (.int c0)] [(.int 1), (.ref b)])) _
      refine X5.caload hx (j := (1 : Int32)) (v := (.int c1)) (by rw [e5]; exact Ar7.1) (State.isArrayOf_alike hZ.alike Ar7.2.1) Ar7.2.2 hin7 hat7 (g := (mkF mM 12 #[.val (.ref b), .val (.int 1), .val (.ref t), .val (.int 1), .val (.int 4), .val (.int 1), .val (.int c0)] [(.int 1), (.ref b)])) rfl rfl (hb hby dj52_21_12) _ ?_
      show Steps _ _ _ (T5.setTop (mkF mM 13 #[.val (.ref b), .val (.int 1), .val (.ref t), .val (.int 1), .val (.int 4), .val (.int 1), .val (.int c0)] [(.int c1)])) _
      refine XS.istore X5.here hx rfl (hb hby dj52_21_13) rfl (l' := #[.val (.ref b), .val (.int 1), .val (.ref t), .val (.int 1), .val (.int 4), .val (.int 1), .val (.int c1)]) rfl ?_
      show Steps _ _ _ (T5.setTop (mkF mM 15 #[.val (.ref b), .val (.int 1), .val (.ref t), .val (.int 1), .val (.int 4), .val (.int 1), .val (.int c1)] [])) _
      refine XS.iload X5.here hx rfl (hb hby dj52_21_15) rfl ?_
      show Steps _ _ _ (T5.setTop (mkF mM 17 #[.val (.ref b), .val (.int 1), .val (.ref t), .val (.int 1), .val (.int 4), .val (.int 1), .val (.int c1)] [(.int c1)])) _
      refine XS.sipush X5.here hx rfl (hb hby dj52_21_17) ?_
      exact kg)
    by_cases hc9 : (255 : Int32) < c1
    · obtain ⟨fs, hr, hrun, hended, hW, hsame⟩ := X5.leave (v := some (.int 1)) (fun h => by rw [Bd.returns] at h; cases h)
      refine ⟨_, _, pre10 _ ?_, hrun, hended, _, _, rfl, ?_, ⟨_, rfl⟩, hW, hsame.mono (by decide) (by decide)⟩
      · refine XS.icmpNo X5.here hx rfl (hb hby dj52_21_20) rfl (tlt hc9).2.2.2 ?_
        show Steps _ _ _ (T5.setTop (mkF mM 23 #[.val (.ref b), .val (.int 1), .val (.ref t), .val (.int 1), .val (.int 4), .val (.int 1), .val (.int c1)] [])) _
        refine XS.iload X5.here hx rfl (hb hby dj52_21_23) rfl ?_
        show Steps _ _ _ (T5.setTop (mkF mM 25 #[.val (.ref b), .val (.int 1), .val (.ref t), .val (.int 1), .val (.int 4), .val (.int 1), .val (.int c1)] [(.int 1)])) _
        exact retI X5 hx Bd.returns (hb hby dj52_21_25) hr
      · show Q_cm4 Z b kb t k c0 c1 c2 c3 h0 n0 _ T5.heap _
        rw [e5]
        exact ⟨[(.int (c0.toInt8.toInt32)), (.int 0), (.int 0), (.int 0)], (by rw [show (own_fi ([c0, c1, c2, c3] : List Int32)) = 1 from by simp only [own_fi, if_neg hc2, if_pos hc9]]; rfl), N5, K6, V5⟩
    · obtain ⟨cl12, Ar12, qk12, S12, Nn12, Hh12, G12⟩ := id V5
      have hin12 : ¬ ((1 : Int32) < 0 ∨ cl12.slots.size ≤ ((1 : Int32)).toNatClampNeg) := inb_of S12 ⟨by decide, by decide⟩
      obtain ⟨T12, h12, X12, e12, W12, st12⟩ := stB X5 hx hZ e5 Ar12 (j := (1 : Int32)) hin12 (g := (mkF mM 31 #[.val (.ref b), .val (.int 1), .val (.ref t), .val (.int 1), .val (.int 4), .val (.int 1), .val (.int c1)] [(.int (c1.toInt8.toInt32)), (.int 1), (.ref t)])) rfl rfl (hb hby dj52_21_31)
      rw [own_narb c1] at W12
      have K13 : Keep h0 h12 [t] := K6.wr W12 (Or.inl (List.mem_of_getElem? (i := 0) rfl))
      have V12 : Arv Z h12 t k .byte (4 : Int32) [(.int (c0.toInt8.toInt32)), (.int (c1.toInt8.toInt32)), (.int 0), (.int 0)] (.int 0) := Arv.set Ar12 qk12 S12 Nn12 Hh12 G12 (own_narb c1 ▸ fits_nar_byte _) W12 1 rfl (Nat.le_of_ble_eq_true rfl)
      have N12 := Fr.snoc X12 N5 g_t
      have f15 := (f8.other W12 ne3)
      obtain ⟨cl14, Ar14, -, S14, Nn14, Hh14, -⟩ := id f15
      have hin14 : ¬ ((2 : Int32) < 0 ∨ cl14.slots.size ≤ ((2 : Int32)).toNatClampNeg) := inb_of S14 ⟨by decide, by decide⟩
      have hat14 : cl14.slots[((2 : Int32)).toNatClampNeg]? = some (.int c2) := Hh14.at hin14 rfl
      have pre17 : ∀ tg, Steps pP.tables eE below (T12.setTop (mkF mM 20 #[.val (.ref b), .val (.int 2), .val (.ref t), .val (.int 2), .val (.int 4), .val (.int 2), .val (.int c2)] [(.int 255), (.int c2)])) tg → Steps pP.tables eE below (s₁.setTop (entryFrame mM #[(.ref b), (.int 0), (.ref t), (.int 0), (.int 4)] 7)) tg := fun tg kg => pre10 tg (by
        refine XS.icmpYes X5.here hx rfl (pc0 := 20) (pc' := 26) rfl (hb hby dj52_21_20) rfl (flt hc9).2.2.2 (by decide) (by decide) ?_
        show Steps _ _ _ (T5.setTop (mkF mM 26 #[.val (.ref b), .val (.int 1), .val (.ref t), .val (.int 1), .val (.int 4), .val (.int 1), .val (.int c1)] [])) _
        refine XS.aloadN X5.here hx rfl (hb hby dj52_21_26) rfl rfl ?_
        show Steps _ _ _ (T5.setTop (mkF mM 27 #[.val (.ref b), .val (.int 1), .val (.ref t), .val (.int 1), .val (.int 4), .val (.int 1), .val (.int c1)] [(.ref t)])) _
        refine XS.iloadN X5.here hx rfl (hb hby dj52_21_27) rfl ?_
        show Steps _ _ _ (T5.setTop (mkF mM 28 #[.val (.ref b), .val (.int 1), .val (.ref t), .val (.int 1), .val (.int 4), .val (.int 1), .val (.int c1)] [(.int 1), (.ref t)])) _
        refine XS.iload X5.here hx rfl (hb hby dj52_21_28) rfl ?_
        show Steps _ _ _ (T5.setTop (mkF mM 30 #[.val (.ref b), .val (.int 1), .val (.ref t), .val (.int 1), .val (.int 4), .val (.int 1), .val (.int c1)] [(.int c1), (.int 1), (.ref t)])) _
        refine XS.i2b X5.here hx rfl (hb hby dj52_21_30) rfl ?_
        show Steps _ _ _ (T5.setTop (mkF mM 31 #[.val (.ref b), .val (.int 1), .val (.ref t), .val (.int 1), .val (.int 4), .val (.int 1), .val (.int c1)] [(.int (c1.toInt8.toInt32)), (.int 1), (.ref t)])) _
        refine st12 _ ?_
        show Steps _ _ _ (T12.setTop (mkF mM 32 #[.val (.ref b), .val (.int 1), .val (.ref t), .val (.int 1), .val (.int 4), .val (.int 1), .val (.int c1)] [])) _
        refine XS.iinc X12.here hx rfl (hb hby dj52_21_32) rfl (l' := #[.val (.ref b), .val (.int 2), .val (.ref t), .val (.int 1), .val (.int 4), .val (.int 1), .val (.int c1)]) rfl ?_
        show Steps _ _ _ (T12.setTop (mkF mM 35 #[.val (.ref b), .val (.int 2), .val (.ref t), .val (.int 1), .val (.int 4), .val (.int 1), .val (.int c1)] [])) _
        refine XS.iinc X12.here hx rfl (hb hby dj52_21_35) rfl (l' := #[.val (.ref b), .val (.int 2), .val (.ref t), .val (.int 2), .val (.int 4), .val (.int 1), .val (.int c1)]) rfl ?_
        show Steps _ _ _ (T12.setTop (mkF mM 38 #[.val (.ref b), .val (.int 2), .val (.ref t), .val (.int 2), .val (.int 4), .val (.int 1), .val (.int c1)] [])) _
        refine XS.iinc X12.here hx rfl (hb hby dj52_21_38) rfl (l' := #[.val (.ref b), .val (.int 2), .val (.ref t), .val (.int 2), .val (.int 4), .val (.int 2), .val (.int c1)]) rfl ?_
        show Steps _ _ _ (T12.setTop (mkF mM 41 #[.val (.ref b), .val (.int 2), .val (.ref t), .val (.int 2), .val (.int 4), .val (.int 2), .val (.int c1)] [])) _
        refine XS.goto X12.here hx rfl (pc0 := 41) (pc' := 3) rfl (hb hby dj52_21_41) (by decide) (by decide) ?_
        show Steps _ _ _ (T12.setTop (mkF mM 3 #[.val (.ref b), .val (.int 2), .val (.ref t), .val (.int 2), .val (.int 4), .val (.int 2), .val (.int c1)] [])) _
        refine XS.iload X12.here hx rfl (hb hby dj52_21_3) rfl ?_
        show Steps _ _ _ (T12.setTop (mkF mM 5 #[.val (.ref b), .val (.int 2), .val (.ref t), .val (.int 2), .val (.int 4), .val (.int 2), .val (.int c1)] [(.int 2)])) _
        refine XS.iload X12.here hx rfl (hb hby dj52_21_5) rfl ?_
        show Steps _ _ _ (T12.setTop (mkF mM 7 #[.val (.ref b), .val (.int 2), .val (.ref t), .val (.int 2), .val (.int 4), .val (.int 2), .val (.int c1)] [(.int 4), (.int 2)])) _
        refine XS.icmpNo X12.here hx rfl (hb hby dj52_21_7) rfl (tlt (by decide : (2 : Int32) < (4 : Int32))).2.1 ?_
        show Steps _ _ _ (T12.setTop (mkF mM 10 #[.val (.ref b), .val (.int 2), .val (.ref t), .val (.int 2), .val (.int 4), .val (.int 2), .val (.int c1)] [])) _
        refine XS.aloadN X12.here hx rfl (hb hby dj52_21_10) rfl rfl ?_
        show Steps _ _ _ (T12.setTop (mkF mM 11 #[.val (.ref b), .val (.int 2), .val (.ref t), .val (.int 2), .val (.int 4), .val (.int 2), .val (.int c1)] [(.ref b)])) _
        refine XS.iloadN X12.here hx rfl (hb hby dj52_21_11) rfl ?_
        show Steps _ _ _ (T12.setTop (mkF mM 12 #[.val (.ref b), .val (.int 2), .val (.ref t), .val (.int 2), .val (.int 4), .val (.int 2), .val (.int c1)] [(.int 2), (.ref b)])) _
        refine X12.caload hx (j := (2 : Int32)) (v := (.int c2)) (by rw [e12]; exact Ar14.1) (State.isArrayOf_alike hZ.alike Ar14.2.1) Ar14.2.2 hin14 hat14 (g := (mkF mM 12 #[.val (.ref b), .val (.int 2), .val (.ref t), .val (.int 2), .val (.int 4), .val (.int 2), .val (.int c1)] [(.int 2), (.ref b)])) rfl rfl (hb hby dj52_21_12) _ ?_
        show Steps _ _ _ (T12.setTop (mkF mM 13 #[.val (.ref b), .val (.int 2), .val (.ref t), .val (.int 2), .val (.int 4), .val (.int 2), .val (.int c1)] [(.int c2)])) _
        refine XS.istore X12.here hx rfl (hb hby dj52_21_13) rfl (l' := #[.val (.ref b), .val (.int 2), .val (.ref t), .val (.int 2), .val (.int 4), .val (.int 2), .val (.int c2)]) rfl ?_
        show Steps _ _ _ (T12.setTop (mkF mM 15 #[.val (.ref b), .val (.int 2), .val (.ref t), .val (.int 2), .val (.int 4), .val (.int 2), .val (.int c2)] [])) _
        refine XS.iload X12.here hx rfl (hb hby dj52_21_15) rfl ?_
        show Steps _ _ _ (T12.setTop (mkF mM 17 #[.val (.ref b), .val (.int 2), .val (.ref t), .val (.int 2), .val (.int 4), .val (.int 2), .val (.int c2)] [(.int c2)])) _
        refine XS.sipush X12.here hx rfl (hb hby dj52_21_17) ?_
        exact kg)
      by_cases hc16 : (255 : Int32) < c2
      · obtain ⟨fs, hr, hrun, hended, hW, hsame⟩ := X12.leave (v := some (.int 2)) (fun h => by rw [Bd.returns] at h; cases h)
        refine ⟨_, _, pre17 _ ?_, hrun, hended, _, _, rfl, ?_, ⟨_, rfl⟩, hW, hsame.mono (by decide) (by decide)⟩
        · refine XS.icmpNo X12.here hx rfl (hb hby dj52_21_20) rfl (tlt hc16).2.2.2 ?_
          show Steps _ _ _ (T12.setTop (mkF mM 23 #[.val (.ref b), .val (.int 2), .val (.ref t), .val (.int 2), .val (.int 4), .val (.int 2), .val (.int c2)] [])) _
          refine XS.iload X12.here hx rfl (hb hby dj52_21_23) rfl ?_
          show Steps _ _ _ (T12.setTop (mkF mM 25 #[.val (.ref b), .val (.int 2), .val (.ref t), .val (.int 2), .val (.int 4), .val (.int 2), .val (.int c2)] [(.int 2)])) _
          exact retI X12 hx Bd.returns (hb hby dj52_21_25) hr
        · show Q_cm4 Z b kb t k c0 c1 c2 c3 h0 n0 _ T12.heap _
          rw [e12]
          exact ⟨[(.int (c0.toInt8.toInt32)), (.int (c1.toInt8.toInt32)), (.int 0), (.int 0)], (by rw [show (own_fi ([c0, c1, c2, c3] : List Int32)) = 2 from by simp only [own_fi, if_neg hc2, if_neg hc9, if_pos hc16]]; rfl), N12, K13, V12⟩
      · obtain ⟨cl19, Ar19, qk19, S19, Nn19, Hh19, G19⟩ := id V12
        have hin19 : ¬ ((2 : Int32) < 0 ∨ cl19.slots.size ≤ ((2 : Int32)).toNatClampNeg) := inb_of S19 ⟨by decide, by decide⟩
        obtain ⟨T19, h19, X19, e19, W19, st19⟩ := stB X12 hx hZ e12 Ar19 (j := (2 : Int32)) hin19 (g := (mkF mM 31 #[.val (.ref b), .val (.int 2), .val (.ref t), .val (.int 2), .val (.int 4), .val (.int 2), .val (.int c2)] [(.int (c2.toInt8.toInt32)), (.int 2), (.ref t)])) rfl rfl (hb hby dj52_21_31)
        rw [own_narb c2] at W19
        have K20 : Keep h0 h19 [t] := K13.wr W19 (Or.inl (List.mem_of_getElem? (i := 0) rfl))
        have V19 : Arv Z h19 t k .byte (4 : Int32) [(.int (c0.toInt8.toInt32)), (.int (c1.toInt8.toInt32)), (.int (c2.toInt8.toInt32)), (.int 0)] (.int 0) := Arv.set Ar19 qk19 S19 Nn19 Hh19 G19 (own_narb c2 ▸ fits_nar_byte _) W19 2 rfl (Nat.le_of_ble_eq_true rfl)
        have N19 := Fr.snoc X19 N12 g_t
        have f22 := (f15.other W19 ne3)
        obtain ⟨cl21, Ar21, -, S21, Nn21, Hh21, -⟩ := id f22
        have hin21 : ¬ ((3 : Int32) < 0 ∨ cl21.slots.size ≤ ((3 : Int32)).toNatClampNeg) := inb_of S21 ⟨by decide, by decide⟩
        have hat21 : cl21.slots[((3 : Int32)).toNatClampNeg]? = some (.int c3) := Hh21.at hin21 rfl
        have pre24 : ∀ tg, Steps pP.tables eE below (T19.setTop (mkF mM 20 #[.val (.ref b), .val (.int 3), .val (.ref t), .val (.int 3), .val (.int 4), .val (.int 3), .val (.int c3)] [(.int 255), (.int c3)])) tg → Steps pP.tables eE below (s₁.setTop (entryFrame mM #[(.ref b), (.int 0), (.ref t), (.int 0), (.int 4)] 7)) tg := fun tg kg => pre17 tg (by
          refine XS.icmpYes X12.here hx rfl (pc0 := 20) (pc' := 26) rfl (hb hby dj52_21_20) rfl (flt hc16).2.2.2 (by decide) (by decide) ?_
          show Steps _ _ _ (T12.setTop (mkF mM 26 #[.val (.ref b), .val (.int 2), .val (.ref t), .val (.int 2), .val (.int 4), .val (.int 2), .val (.int c2)] [])) _
          refine XS.aloadN X12.here hx rfl (hb hby dj52_21_26) rfl rfl ?_
          show Steps _ _ _ (T12.setTop (mkF mM 27 #[.val (.ref b), .val (.int 2), .val (.ref t), .val (.int 2), .val (.int 4), .val (.int 2), .val (.int c2)] [(.ref t)])) _
          refine XS.iloadN X12.here hx rfl (hb hby dj52_21_27) rfl ?_
          show Steps _ _ _ (T12.setTop (mkF mM 28 #[.val (.ref b), .val (.int 2), .val (.ref t), .val (.int 2), .val (.int 4), .val (.int 2), .val (.int c2)] [(.int 2), (.ref t)])) _
          refine XS.iload X12.here hx rfl (hb hby dj52_21_28) rfl ?_
          show Steps _ _ _ (T12.setTop (mkF mM 30 #[.val (.ref b), .val (.int 2), .val (.ref t), .val (.int 2), .val (.int 4), .val (.int 2), .val (.int c2)] [(.int c2), (.int 2), (.ref t)])) _
          refine XS.i2b X12.here hx rfl (hb hby dj52_21_30) rfl ?_
          show Steps _ _ _ (T12.setTop (mkF mM 31 #[.val (.ref b), .val (.int 2), .val (.ref t), .val (.int 2), .val (.int 4), .val (.int 2), .val (.int c2)] [(.int (c2.toInt8.toInt32)), (.int 2), (.ref t)])) _
          refine st19 _ ?_
          show Steps _ _ _ (T19.setTop (mkF mM 32 #[.val (.ref b), .val (.int 2), .val (.ref t), .val (.int 2), .val (.int 4), .val (.int 2), .val (.int c2)] [])) _
          refine XS.iinc X19.here hx rfl (hb hby dj52_21_32) rfl (l' := #[.val (.ref b), .val (.int 3), .val (.ref t), .val (.int 2), .val (.int 4), .val (.int 2), .val (.int c2)]) rfl ?_
          show Steps _ _ _ (T19.setTop (mkF mM 35 #[.val (.ref b), .val (.int 3), .val (.ref t), .val (.int 2), .val (.int 4), .val (.int 2), .val (.int c2)] [])) _
          refine XS.iinc X19.here hx rfl (hb hby dj52_21_35) rfl (l' := #[.val (.ref b), .val (.int 3), .val (.ref t), .val (.int 3), .val (.int 4), .val (.int 2), .val (.int c2)]) rfl ?_
          show Steps _ _ _ (T19.setTop (mkF mM 38 #[.val (.ref b), .val (.int 3), .val (.ref t), .val (.int 3), .val (.int 4), .val (.int 2), .val (.int c2)] [])) _
          refine XS.iinc X19.here hx rfl (hb hby dj52_21_38) rfl (l' := #[.val (.ref b), .val (.int 3), .val (.ref t), .val (.int 3), .val (.int 4), .val (.int 3), .val (.int c2)]) rfl ?_
          show Steps _ _ _ (T19.setTop (mkF mM 41 #[.val (.ref b), .val (.int 3), .val (.ref t), .val (.int 3), .val (.int 4), .val (.int 3), .val (.int c2)] [])) _
          refine XS.goto X19.here hx rfl (pc0 := 41) (pc' := 3) rfl (hb hby dj52_21_41) (by decide) (by decide) ?_
          show Steps _ _ _ (T19.setTop (mkF mM 3 #[.val (.ref b), .val (.int 3), .val (.ref t), .val (.int 3), .val (.int 4), .val (.int 3), .val (.int c2)] [])) _
          refine XS.iload X19.here hx rfl (hb hby dj52_21_3) rfl ?_
          show Steps _ _ _ (T19.setTop (mkF mM 5 #[.val (.ref b), .val (.int 3), .val (.ref t), .val (.int 3), .val (.int 4), .val (.int 3), .val (.int c2)] [(.int 3)])) _
          refine XS.iload X19.here hx rfl (hb hby dj52_21_5) rfl ?_
          show Steps _ _ _ (T19.setTop (mkF mM 7 #[.val (.ref b), .val (.int 3), .val (.ref t), .val (.int 3), .val (.int 4), .val (.int 3), .val (.int c2)] [(.int 4), (.int 3)])) _
          refine XS.icmpNo X19.here hx rfl (hb hby dj52_21_7) rfl (tlt (by decide : (3 : Int32) < (4 : Int32))).2.1 ?_
          show Steps _ _ _ (T19.setTop (mkF mM 10 #[.val (.ref b), .val (.int 3), .val (.ref t), .val (.int 3), .val (.int 4), .val (.int 3), .val (.int c2)] [])) _
          refine XS.aloadN X19.here hx rfl (hb hby dj52_21_10) rfl rfl ?_
          show Steps _ _ _ (T19.setTop (mkF mM 11 #[.val (.ref b), .val (.int 3), .val (.ref t), .val (.int 3), .val (.int 4), .val (.int 3), .val (.int c2)] [(.ref b)])) _
          refine XS.iloadN X19.here hx rfl (hb hby dj52_21_11) rfl ?_
          show Steps _ _ _ (T19.setTop (mkF mM 12 #[.val (.ref b), .val (.int 3), .val (.ref t), .val (.int 3), .val (.int 4), .val (.int 3), .val (.int c2)] [(.int 3), (.ref b)])) _
          refine X19.caload hx (j := (3 : Int32)) (v := (.int c3)) (by rw [e19]; exact Ar21.1) (State.isArrayOf_alike hZ.alike Ar21.2.1) Ar21.2.2 hin21 hat21 (g := (mkF mM 12 #[.val (.ref b), .val (.int 3), .val (.ref t), .val (.int 3), .val (.int 4), .val (.int 3), .val (.int c2)] [(.int 3), (.ref b)])) rfl rfl (hb hby dj52_21_12) _ ?_
          show Steps _ _ _ (T19.setTop (mkF mM 13 #[.val (.ref b), .val (.int 3), .val (.ref t), .val (.int 3), .val (.int 4), .val (.int 3), .val (.int c2)] [(.int c3)])) _
          refine XS.istore X19.here hx rfl (hb hby dj52_21_13) rfl (l' := #[.val (.ref b), .val (.int 3), .val (.ref t), .val (.int 3), .val (.int 4), .val (.int 3), .val (.int c3)]) rfl ?_
          show Steps _ _ _ (T19.setTop (mkF mM 15 #[.val (.ref b), .val (.int 3), .val (.ref t), .val (.int 3), .val (.int 4), .val (.int 3), .val (.int c3)] [])) _
          refine XS.iload X19.here hx rfl (hb hby dj52_21_15) rfl ?_
          show Steps _ _ _ (T19.setTop (mkF mM 17 #[.val (.ref b), .val (.int 3), .val (.ref t), .val (.int 3), .val (.int 4), .val (.int 3), .val (.int c3)] [(.int c3)])) _
          refine XS.sipush X19.here hx rfl (hb hby dj52_21_17) ?_
          exact kg)
        by_cases hc23 : (255 : Int32) < c3
        · obtain ⟨fs, hr, hrun, hended, hW, hsame⟩ := X19.leave (v := some (.int 3)) (fun h => by rw [Bd.returns] at h; cases h)
          refine ⟨_, _, pre24 _ ?_, hrun, hended, _, _, rfl, ?_, ⟨_, rfl⟩, hW, hsame.mono (by decide) (by decide)⟩
          · refine XS.icmpNo X19.here hx rfl (hb hby dj52_21_20) rfl (tlt hc23).2.2.2 ?_
            show Steps _ _ _ (T19.setTop (mkF mM 23 #[.val (.ref b), .val (.int 3), .val (.ref t), .val (.int 3), .val (.int 4), .val (.int 3), .val (.int c3)] [])) _
            refine XS.iload X19.here hx rfl (hb hby dj52_21_23) rfl ?_
            show Steps _ _ _ (T19.setTop (mkF mM 25 #[.val (.ref b), .val (.int 3), .val (.ref t), .val (.int 3), .val (.int 4), .val (.int 3), .val (.int c3)] [(.int 3)])) _
            exact retI X19 hx Bd.returns (hb hby dj52_21_25) hr
          · show Q_cm4 Z b kb t k c0 c1 c2 c3 h0 n0 _ T19.heap _
            rw [e19]
            exact ⟨[(.int (c0.toInt8.toInt32)), (.int (c1.toInt8.toInt32)), (.int (c2.toInt8.toInt32)), (.int 0)], (by rw [show (own_fi ([c0, c1, c2, c3] : List Int32)) = 3 from by simp only [own_fi, if_neg hc2, if_neg hc9, if_neg hc16, if_pos hc23]]; rfl), N19, K20, V19⟩
        · obtain ⟨cl26, Ar26, qk26, S26, Nn26, Hh26, G26⟩ := id V19
          have hin26 : ¬ ((3 : Int32) < 0 ∨ cl26.slots.size ≤ ((3 : Int32)).toNatClampNeg) := inb_of S26 ⟨by decide, by decide⟩
          obtain ⟨T26, h26, X26, e26, W26, st26⟩ := stB X19 hx hZ e19 Ar26 (j := (3 : Int32)) hin26 (g := (mkF mM 31 #[.val (.ref b), .val (.int 3), .val (.ref t), .val (.int 3), .val (.int 4), .val (.int 3), .val (.int c3)] [(.int (c3.toInt8.toInt32)), (.int 3), (.ref t)])) rfl rfl (hb hby dj52_21_31)
          rw [own_narb c3] at W26
          have K27 : Keep h0 h26 [t] := K20.wr W26 (Or.inl (List.mem_of_getElem? (i := 0) rfl))
          have V26 : Arv Z h26 t k .byte (4 : Int32) [(.int (c0.toInt8.toInt32)), (.int (c1.toInt8.toInt32)), (.int (c2.toInt8.toInt32)), (.int (c3.toInt8.toInt32))] (.int 0) := Arv.set Ar26 qk26 S26 Nn26 Hh26 G26 (own_narb c3 ▸ fits_nar_byte _) W26 3 rfl (Nat.le_of_ble_eq_true rfl)
          have N26 := Fr.snoc X26 N19 g_t
          exact absurd hp4 (by simp only [own_fi, if_neg hc2, if_neg hc9, if_neg hc16, if_neg hc23]; decide)
theorem ef_cp1 (m : MethodId) (x0 : Addr) (x1 : Int32) (x2 : Int32) : entryFrame m #[(.ref x0), (.int x1), (.int x2)] 6 = mkF m 0 #[.val (.ref x0), .val (.int x1), .val (.int x2), .unset, .unset, .unset] [] := by first | (simp [entryFrame, mkF, argsToLocals, Value.category]; done) | rfl
def Q_cp1 (Z : State) (b : Addr) (kb : ClassId) (c0 : Int32) (h0 : Heap) (n0 : Nat) (vV : Option Value) (h : Heap) (LL : List Loc) : Prop := ∃ (a : Addr) (ka : ClassId), vV = some (.ref a) ∧ Fr n0 LL ∧ Keep h0 h [] ∧ h0.size ≤ a ∧ Arv Z h a ka .byte (Int32.ofNat (2 * 1)) (own_u16 [c0]) (.int 0)
set_option maxRecDepth 65536 in
set_option maxHeartbeats 40000000 in
theorem rm_cp1 (l : Launch) (Z : State) (a0 : Array Value) (hw : ∀ d ∈ tables_1, d.before a0 Z = true) (ws : List Jvm.Cond) (b : Addr) (kb : ClassId) (c0 : Int32) (h0 : Heap) (n0 : Nat) (O0 : Old Z n0 h0) (V_b : Arv Z h0 b kb .char (1 : Int32) [(.int c0)] (.int 0)) (hp1 : ((own_fi ([c0] : List Int32)) < 1)) (hp2 : (∀ c ∈ ([c0] : List Int32), ¬ c < 0 ∧ ¬ (65535 : Int32) < c)) (S__assertionsDisabled : Sta Z Z.heap "java/lang/StringUTF16" "$assertionsDisabled" "Z" (.int 1)) (S_HI_BYTE_SHIFT : Sta Z Z.heap "java/lang/StringUTF16" "HI_BYTE_SHIFT" "I" (.int 0)) (S_LO_BYTE_SHIFT : Sta Z Z.heap "java/lang/StringUTF16" "LO_BYTE_SHIFT" "I" (.int 8)) :
    MetFree l (⟨"java/lang/StringUTF16", "compress", "([CII)[B"⟩ : MethodName) (head1 (Jvm.Cond.code (⟨"java/lang/StringUTF16", "compress", "([CII)[B"⟩ : MethodName) jdk_52_method_16_code 6 (some (.array .byte)) :: ws) (⟨3, 2, 9, 40⟩ : Room)) (fun aa_ U => aa_ = #[(.ref b), (.int 0), (.int 1)] ∧ Z.Warmed39 U.vm ∧ U.heap = h0) (fun _ _ _ _ _ => True) (fun _ U o U' => ∃ vV LL, o = .returned vV ∧ Q_cp1 Z b kb c0 h0 n0 vV U'.heap LL ∧ FrameEnd U o U' LL (⟨3, 2, 9, 40⟩ : Room).cells (⟨3, 2, 9, 40⟩ : Room).slots) := by
  refine MetFree.of_bodySF (plainFor_of_name pn_2) hisR ?_
  intro pP eE sS mM args below meth cC s₁ Bd hml0 hP hK
  obtain ⟨rfl, hZ, hh⟩ := hP
  have hx := Bd.exec
  have hby := Bd.bytes
  have hml : cC.maxLocals = 6 := hml0
  have hown : sS.vm.findClass "java/lang/StringUTF16" = some mM.cls := findClass_of_methodNamed Bd.named
  have hnm := (name_of_methodNamed Bd.named Bd.method).1
  have X0 : Stand pP l eE (⟨3, 2, 9, 40⟩ : Room) sS mM #[(.ref b), (.int 0), (.int 1)] below meth cC s₁ [] 0 0 := Stand.of_body Bd
  have e0 : s₁.heap = h0 := by rw [← hh, Bd.state]; rfl
  have N0 := Fr.nil n0
  have pre0 : ∀ tg, Steps pP.tables eE below (s₁.setTop (mkF mM 0 #[.val (.ref b), .val (.int 0), .val (.int 1), .unset, .unset, .unset] [])) tg → Steps pP.tables eE below (s₁.setTop (entryFrame mM #[(.ref b), (.int 0), (.int 1)] 6)) tg := fun tg kg => castTop (ef_cp1 mM b (0 : Int32) (1 : Int32)) kg
  have K0 : Keep h0 h0 [] := Keep.refl _ _
  obtain ⟨T1, h1, k1, X1, e1, E1, A1, st1⟩ := newP X0 hx hZ (aty := .byte) (w_21 hw) e0 (g := (mkF mM 1 #[.val (.ref b), .val (.int 0), .val (.int 1), .unset, .unset, .unset] [(.int 1)])) rfl (hb hby dj52_16_1) rfl (by decide) (cap := 1) (by decide) (by decide) (by decide) (by decide)
  obtain ⟨b1, g1⟩ : ∃ z, z = h0.size := ⟨_, rfl⟩
  rw [← g1] at A1 st1
  have g_b1 : n0 ≤ b1 := Nat.le_trans (own_osz O0) (Nat.le_of_eq g1.symm)
  have sz_b1 : h0.size ≤ b1 := Nat.le_trans K0.1 (Nat.le_of_eq g1.symm)
  have K2 : Keep h0 h1 [] := K0.ext E1
  have V1 : Arv Z h1 b1 k1 .byte (1 : Int32) [(.int 0)] (.int 0) := (Arv.new A1 (by decide)).pad (pad_rep [] (.int 0) 1)
  have f3 := (V_b.ext E1)
  have f4 := (O0.ext E1)
  obtain ⟨_, _, ⟨T5, L5, k5, n5⟩, -, X5, ⟨Lc5, hQ5, l5, y5, z5⟩, st5⟩ := Jvm.LawKit.callS X1 hx (y := (⟨"java/lang/StringUTF16", "compress", "([CI[BII)I"⟩ : MethodName)) hown (mvT hZ (w_76 hw)) (mvT hZ (w_77 hw)) (mvT hZ (w_74 hw)) (mvT hZ (w_78 hw)) (by decide) (backOf (W := 0) (rm_cm1 l Z a0 hw [] b kb b1 k1 c0 h1 n0 f4 f3 V1 g_b1 (Nat.ne_of_lt (Nat.lt_of_lt_of_le (V_b).lt (Nat.le_of_eq g1.symm))) (hp1 : (own_fi ([c0] : List Int32)) < 1)) hZ (w_78 hw) (w_74 hw) (by decide) (by decide)) (g := (mkF mM 9 #[.val (.ref b), .val (.int 0), .val (.int 1), .val (.ref b1), .unset, .unset] [(.int 1), (.int 0), (.ref b1), (.int 0), (.ref b)])) rfl (by rw [hml]; rfl) (argsL := [(.ref b), (.int 0), (.ref b1), (.int 0), (.int 1)]) (rest := []) (lenOf pd_13 rfl) rfl (by show 2 * 0 + _ ≤ _; exact Nat.le_of_eq rfl) (hb hby dj52_16_9) (fun _ _ => ⟨rfl, e1, (by decide : 1 + 0 ≤ _), (by decide : 1 + 0 ≤ _)⟩)
  dsimp only [Pt.U, Pt.locs, Pt.cells, Pt.slots] at X5 l5 y5 z5 st5 hQ5
  subst l5 y5 z5
  obtain ⟨vs_5, rfl, Nq5, Kq5, q5_0⟩ := hQ5
  have N5 := Fr.app N0 Nq5
  have K6 : Keep h0 T5.heap [] := K2.trans Kq5 (allS (Or.inr sz_b1) all0)
  have f7 := (f3.keep Kq5 (ninS (Nat.ne_of_lt (Nat.lt_of_lt_of_le (V_b).lt (Nat.le_of_eq g1.symm))) nin0))
  have f8 := (f4.keep Kq5 (allS g_b1 all0))
  obtain ⟨_, _, ⟨T9, L9, k9, n9⟩, -, X9, ⟨Lc9, hQ9, l9, y9, z9⟩, st9⟩ := Jvm.LawKit.callS X5 hx (y := (⟨"java/lang/StringUTF16", "toBytes", "([CII)[B"⟩ : MethodName)) hown (mvT hZ (w_88 hw)) (mvT hZ (w_89 hw)) (mvT hZ (w_74 hw)) (mvT hZ (w_90 hw)) (by decide) (backOf (W := 0) (rm_tob1 l Z a0 hw [] b kb c0 T5.heap n0 f8 f7 S__assertionsDisabled S_HI_BYTE_SHIFT S_LO_BYTE_SHIFT) hZ (w_90 hw) (w_74 hw) (by decide) (by decide)) (g := (mkF mM 23 #[.val (.ref b), .val (.int 0), .val (.int 1), .val (.ref b1), .val (.int (Int32.ofNat (own_fi ([c0] : List Int32)))), .unset] [(.int 1), (.int 0), (.ref b)])) rfl (by rw [hml]; rfl) (argsL := [(.ref b), (.int 0), (.int 1)]) (rest := []) (lenOf pd_14 rfl) rfl (by show 2 * 0 + _ ≤ _; exact Nat.le_of_eq rfl) (hb hby dj52_16_23) (fun _ _ => ⟨rfl, rfl, (by decide : 1 + 1 ≤ _), (by decide : 1 + 8 ≤ _)⟩)
  dsimp only [Pt.U, Pt.locs, Pt.cells, Pt.slots] at X9 l9 y9 z9 st9 hQ9
  subst l9 y9 z9
  obtain ⟨t_9, k_9, rfl, Nq9, Kq9, q9_0, q9_1⟩ := hQ9
  have N9 := Fr.app N5 Nq9
  have g_t_9 : n0 ≤ t_9 := Nat.le_trans (own_osz f8) q9_0
  have sz_t_9 : h0.size ≤ t_9 := Nat.le_trans K6.1 q9_0
  have K10 : Keep h0 T9.heap [] := K6.trans Kq9 all0
  have f11 := (f8.keep Kq9 all0)
  obtain ⟨_, _, ⟨T12, L12, k12, n12⟩, -, X12, ⟨Lc12, hQ12, l12, y12, z12⟩, st12⟩ := Jvm.LawKit.callS X9 hx (y := (⟨"java/lang/StringUTF16", "getChar", "([BI)C"⟩ : MethodName)) hown (mvT hZ (w_104 hw)) (mvT hZ (w_105 hw)) (mvT hZ (w_74 hw)) (mvT hZ (w_106 hw)) (by decide) (backOf (W := 0) (rm_gch l Z a0 hw [] t_9 k_9 1 [c0] (own_fi ([c0] : List Int32)) T9.heap n0 f11 q9_1 (⟨rfl, by decide⟩ : [c0].length = 1 ∧ 1 ≤ 4) (hp1 : (own_fi ([c0] : List Int32)) < 1) (hp2 : ∀ c ∈ [c0], ¬ c < 0 ∧ ¬ (65535 : Int32) < c) S__assertionsDisabled S_HI_BYTE_SHIFT S_LO_BYTE_SHIFT) hZ (w_106 hw) (w_74 hw) (by decide) (by decide)) (g := (mkF mM 32 #[.val (.ref b), .val (.int 0), .val (.int 1), .val (.ref b1), .val (.int (Int32.ofNat (own_fi ([c0] : List Int32)))), .val (.ref t_9)] [(.int (Int32.ofNat (own_fi ([c0] : List Int32)))), (.ref t_9)])) rfl (by rw [hml]; rfl) (argsL := [(.ref t_9), (.int (Int32.ofNat (own_fi ([c0] : List Int32))))]) (rest := []) (lenOf pd_1 rfl) rfl (by show 2 * 0 + _ ≤ _; exact Nat.le_of_eq rfl) (hb hby dj52_16_32) (fun _ _ => ⟨rfl, rfl, (by decide : 2 + 0 ≤ _), (by decide : 9 + 0 ≤ _)⟩)
  dsimp only [Pt.U, Pt.locs, Pt.cells, Pt.slots] at X12 l12 y12 z12 st12 hQ12
  subst l12 y12 z12
  obtain ⟨rfl, rfl, Kq12⟩ := hQ12
  try rw [List.append_nil] at X12
  obtain ⟨fs, hr, hrun, hended, hW, hsame⟩ := X12.leave (v := some (.ref t_9)) (fun h => by rw [Bd.returns] at h; cases h)
  refine ⟨_, _, pre0 _ ?_, hrun, hended, _, _, rfl, ?_, ⟨_, rfl⟩, hW, hsame.mono (by decide) (by decide)⟩
  · refine XS.iloadN X0.here hx rfl (hb hby dj52_16_0) rfl ?_
    show Steps _ _ _ (s₁.setTop (mkF mM 1 #[.val (.ref b), .val (.int 0), .val (.int 1), .unset, .unset, .unset] [(.int 1)])) _
    refine st1 _ ?_
    show Steps _ _ _ (T1.setTop (mkF mM 3 #[.val (.ref b), .val (.int 0), .val (.int 1), .unset, .unset, .unset] [(.ref b1)])) _
    refine XS.astoreN X1.here hx rfl (hb hby dj52_16_3) rfl rfl (l' := #[.val (.ref b), .val (.int 0), .val (.int 1), .val (.ref b1), .unset, .unset]) rfl ?_
    show Steps _ _ _ (T1.setTop (mkF mM 4 #[.val (.ref b), .val (.int 0), .val (.int 1), .val (.ref b1), .unset, .unset] [])) _
    refine XS.aloadN X1.here hx rfl (hb hby dj52_16_4) rfl rfl ?_
    show Steps _ _ _ (T1.setTop (mkF mM 5 #[.val (.ref b), .val (.int 0), .val (.int 1), .val (.ref b1), .unset, .unset] [(.ref b)])) _
    refine XS.iloadN X1.here hx rfl (hb hby dj52_16_5) rfl ?_
    show Steps _ _ _ (T1.setTop (mkF mM 6 #[.val (.ref b), .val (.int 0), .val (.int 1), .val (.ref b1), .unset, .unset] [(.int 0), (.ref b)])) _
    refine XS.aloadN X1.here hx rfl (hb hby dj52_16_6) rfl rfl ?_
    show Steps _ _ _ (T1.setTop (mkF mM 7 #[.val (.ref b), .val (.int 0), .val (.int 1), .val (.ref b1), .unset, .unset] [(.ref b1), (.int 0), (.ref b)])) _
    refine XS.iconst X1.here hx rfl (hb hby dj52_16_7) ?_
    show Steps _ _ _ (T1.setTop (mkF mM 8 #[.val (.ref b), .val (.int 0), .val (.int 1), .val (.ref b1), .unset, .unset] [(.int 0), (.ref b1), (.int 0), (.ref b)])) _
    refine XS.iloadN X1.here hx rfl (hb hby dj52_16_8) rfl ?_
    show Steps _ _ _ (T1.setTop (mkF mM 9 #[.val (.ref b), .val (.int 0), .val (.int 1), .val (.ref b1), .unset, .unset] [(.int 1), (.int 0), (.ref b1), (.int 0), (.ref b)])) _
    refine st5 _ ?_
    show Steps _ _ _ (T5.setTop (mkF mM 12 #[.val (.ref b), .val (.int 0), .val (.int 1), .val (.ref b1), .unset, .unset] [(.int (Int32.ofNat (own_fi ([c0] : List Int32))))])) _
    refine XS.istore X5.here hx rfl (hb hby dj52_16_12) rfl (l' := #[.val (.ref b), .val (.int 0), .val (.int 1), .val (.ref b1), .val (.int (Int32.ofNat (own_fi ([c0] : List Int32)))), .unset]) rfl ?_
    show Steps _ _ _ (T5.setTop (mkF mM 14 #[.val (.ref b), .val (.int 0), .val (.int 1), .val (.ref b1), .val (.int (Int32.ofNat (own_fi ([c0] : List Int32)))), .unset] [])) _
    refine XS.iload X5.here hx rfl (hb hby dj52_16_14) rfl ?_
    show Steps _ _ _ (T5.setTop (mkF mM 16 #[.val (.ref b), .val (.int 0), .val (.int 1), .val (.ref b1), .val (.int (Int32.ofNat (own_fi ([c0] : List Int32)))), .unset] [(.int (Int32.ofNat (own_fi ([c0] : List Int32))))])) _
    refine XS.iloadN X5.here hx rfl (hb hby dj52_16_16) rfl ?_
    show Steps _ _ _ (T5.setTop (mkF mM 17 #[.val (.ref b), .val (.int 0), .val (.int 1), .val (.ref b1), .val (.int (Int32.ofNat (own_fi ([c0] : List Int32)))), .unset] [(.int 1), (.int (Int32.ofNat (own_fi ([c0] : List Int32))))])) _
    refine XS.icmpNo X5.here hx rfl (hb hby dj52_16_17) rfl (feq (fun q => absurd (own_inj (j := 1) q (by omega) (by omega)) (by omega))).1 ?_
    show Steps _ _ _ (T5.setTop (mkF mM 20 #[.val (.ref b), .val (.int 0), .val (.int 1), .val (.ref b1), .val (.int (Int32.ofNat (own_fi ([c0] : List Int32)))), .unset] [])) _
    refine XS.aloadN X5.here hx rfl (hb hby dj52_16_20) rfl rfl ?_
    show Steps _ _ _ (T5.setTop (mkF mM 21 #[.val (.ref b), .val (.int 0), .val (.int 1), .val (.ref b1), .val (.int (Int32.ofNat (own_fi ([c0] : List Int32)))), .unset] [(.ref b)])) _
    refine XS.iloadN X5.here hx rfl (hb hby dj52_16_21) rfl ?_
    show Steps _ _ _ (T5.setTop (mkF mM 22 #[.val (.ref b), .val (.int 0), .val (.int 1), .val (.ref b1), .val (.int (Int32.ofNat (own_fi ([c0] : List Int32)))), .unset] [(.int 0), (.ref b)])) _
    refine XS.iloadN X5.here hx rfl (hb hby dj52_16_22) rfl ?_
    show Steps _ _ _ (T5.setTop (mkF mM 23 #[.val (.ref b), .val (.int 0), .val (.int 1), .val (.ref b1), .val (.int (Int32.ofNat (own_fi ([c0] : List Int32)))), .unset] [(.int 1), (.int 0), (.ref b)])) _
    refine st9 _ ?_
    show Steps _ _ _ (T9.setTop (mkF mM 26 #[.val (.ref b), .val (.int 0), .val (.int 1), .val (.ref b1), .val (.int (Int32.ofNat (own_fi ([c0] : List Int32)))), .unset] [(.ref t_9)])) _
    refine XS.astore X9.here hx rfl (hb hby dj52_16_26) rfl rfl (l' := #[.val (.ref b), .val (.int 0), .val (.int 1), .val (.ref b1), .val (.int (Int32.ofNat (own_fi ([c0] : List Int32)))), .val (.ref t_9)]) rfl ?_
    show Steps _ _ _ (T9.setTop (mkF mM 28 #[.val (.ref b), .val (.int 0), .val (.int 1), .val (.ref b1), .val (.int (Int32.ofNat (own_fi ([c0] : List Int32)))), .val (.ref t_9)] [])) _
    refine XS.aload X9.here hx rfl (hb hby dj52_16_28) rfl rfl ?_
    show Steps _ _ _ (T9.setTop (mkF mM 30 #[.val (.ref b), .val (.int 0), .val (.int 1), .val (.ref b1), .val (.int (Int32.ofNat (own_fi ([c0] : List Int32)))), .val (.ref t_9)] [(.ref t_9)])) _
    refine XS.iload X9.here hx rfl (hb hby dj52_16_30) rfl ?_
    show Steps _ _ _ (T9.setTop (mkF mM 32 #[.val (.ref b), .val (.int 0), .val (.int 1), .val (.ref b1), .val (.int (Int32.ofNat (own_fi ([c0] : List Int32)))), .val (.ref t_9)] [(.int (Int32.ofNat (own_fi ([c0] : List Int32)))), (.ref t_9)])) _
    refine st12 _ ?_
    show Steps _ _ _ (T12.setTop (mkF mM 35 #[.val (.ref b), .val (.int 0), .val (.int 1), .val (.ref b1), .val (.int (Int32.ofNat (own_fi ([c0] : List Int32)))), .val (.ref t_9)] [(.int ([c0].getD (own_fi ([c0] : List Int32)) 0))])) _
    refine XS.sipush X12.here hx rfl (hb hby dj52_16_35) ?_
    show Steps _ _ _ (T12.setTop (mkF mM 38 #[.val (.ref b), .val (.int 0), .val (.int 1), .val (.ref b1), .val (.int (Int32.ofNat (own_fi ([c0] : List Int32)))), .val (.ref t_9)] [(.int 255), (.int ([c0].getD (own_fi ([c0] : List Int32)) 0))])) _
    refine XS.icmpYes X12.here hx rfl (pc0 := 38) (pc' := 54) rfl (hb hby dj52_16_38) rfl (tlt (own_fi_gt _ hp1)).2.2.1 (by decide) (by decide) ?_
    show Steps _ _ _ (T12.setTop (mkF mM 54 #[.val (.ref b), .val (.int 0), .val (.int 1), .val (.ref b1), .val (.int (Int32.ofNat (own_fi ([c0] : List Int32)))), .val (.ref t_9)] [])) _
    refine XS.aload X12.here hx rfl (hb hby dj52_16_54) rfl rfl ?_
    show Steps _ _ _ (T12.setTop (mkF mM 56 #[.val (.ref b), .val (.int 0), .val (.int 1), .val (.ref b1), .val (.int (Int32.ofNat (own_fi ([c0] : List Int32)))), .val (.ref t_9)] [(.ref t_9)])) _
    jvm_step X12.here [X12.here.top, hx, (hb hby dj52_16_56), X12.method', Bd.returns, Value.isRef, FieldType.isReference]
    first | (intro acts; rw [hr _ acts rfl rfl rfl]) | rw [hr _ _ rfl rfl rfl]
    exact Steps.refl _
  · show Q_cp1 Z b kb c0 h0 n0 _ T12.heap _
    rw [Kq12]
    exact ⟨t_9, k_9, rfl, N9, K10, sz_t_9, q9_1⟩
theorem ef_cp2 (m : MethodId) (x0 : Addr) (x1 : Int32) (x2 : Int32) : entryFrame m #[(.ref x0), (.int x1), (.int x2)] 6 = mkF m 0 #[.val (.ref x0), .val (.int x1), .val (.int x2), .unset, .unset, .unset] [] := by first | (simp [entryFrame, mkF, argsToLocals, Value.category]; done) | rfl
def Q_cp2 (Z : State) (b : Addr) (kb : ClassId) (c0 : Int32) (c1 : Int32) (h0 : Heap) (n0 : Nat) (vV : Option Value) (h : Heap) (LL : List Loc) : Prop := ∃ (a : Addr) (ka : ClassId), vV = some (.ref a) ∧ Fr n0 LL ∧ Keep h0 h [] ∧ h0.size ≤ a ∧ Arv Z h a ka .byte (Int32.ofNat (2 * 2)) (own_u16 [c0, c1]) (.int 0)
set_option maxRecDepth 65536 in
set_option maxHeartbeats 40000000 in
theorem rm_cp2 (l : Launch) (Z : State) (a0 : Array Value) (hw : ∀ d ∈ tables_1, d.before a0 Z = true) (ws : List Jvm.Cond) (b : Addr) (kb : ClassId) (c0 : Int32) (c1 : Int32) (h0 : Heap) (n0 : Nat) (O0 : Old Z n0 h0) (V_b : Arv Z h0 b kb .char (2 : Int32) [(.int c0), (.int c1)] (.int 0)) (hp1 : ((own_fi ([c0, c1] : List Int32)) < 2)) (hp2 : (∀ c ∈ ([c0, c1] : List Int32), ¬ c < 0 ∧ ¬ (65535 : Int32) < c)) (S__assertionsDisabled : Sta Z Z.heap "java/lang/StringUTF16" "$assertionsDisabled" "Z" (.int 1)) (S_HI_BYTE_SHIFT : Sta Z Z.heap "java/lang/StringUTF16" "HI_BYTE_SHIFT" "I" (.int 0)) (S_LO_BYTE_SHIFT : Sta Z Z.heap "java/lang/StringUTF16" "LO_BYTE_SHIFT" "I" (.int 8)) :
    MetFree l (⟨"java/lang/StringUTF16", "compress", "([CII)[B"⟩ : MethodName) (head1 (Jvm.Cond.code (⟨"java/lang/StringUTF16", "compress", "([CII)[B"⟩ : MethodName) jdk_52_method_16_code 6 (some (.array .byte)) :: ws) (⟨3, 2, 10, 40⟩ : Room)) (fun aa_ U => aa_ = #[(.ref b), (.int 0), (.int 2)] ∧ Z.Warmed39 U.vm ∧ U.heap = h0) (fun _ _ _ _ _ => True) (fun _ U o U' => ∃ vV LL, o = .returned vV ∧ Q_cp2 Z b kb c0 c1 h0 n0 vV U'.heap LL ∧ FrameEnd U o U' LL (⟨3, 2, 10, 40⟩ : Room).cells (⟨3, 2, 10, 40⟩ : Room).slots) := by
  refine MetFree.of_bodySF (plainFor_of_name pn_2) hisR ?_
  intro pP eE sS mM args below meth cC s₁ Bd hml0 hP hK
  obtain ⟨rfl, hZ, hh⟩ := hP
  have hx := Bd.exec
  have hby := Bd.bytes
  have hml : cC.maxLocals = 6 := hml0
  have hown : sS.vm.findClass "java/lang/StringUTF16" = some mM.cls := findClass_of_methodNamed Bd.named
  have hnm := (name_of_methodNamed Bd.named Bd.method).1
  have X0 : Stand pP l eE (⟨3, 2, 10, 40⟩ : Room) sS mM #[(.ref b), (.int 0), (.int 2)] below meth cC s₁ [] 0 0 := Stand.of_body Bd
  have e0 : s₁.heap = h0 := by rw [← hh, Bd.state]; rfl
  have N0 := Fr.nil n0
  have pre0 : ∀ tg, Steps pP.tables eE below (s₁.setTop (mkF mM 0 #[.val (.ref b), .val (.int 0), .val (.int 2), .unset, .unset, .unset] [])) tg → Steps pP.tables eE below (s₁.setTop (entryFrame mM #[(.ref b), (.int 0), (.int 2)] 6)) tg := fun tg kg => castTop (ef_cp2 mM b (0 : Int32) (2 : Int32)) kg
  have K0 : Keep h0 h0 [] := Keep.refl _ _
  obtain ⟨T1, h1, k1, X1, e1, E1, A1, st1⟩ := newP X0 hx hZ (aty := .byte) (w_21 hw) e0 (g := (mkF mM 1 #[.val (.ref b), .val (.int 0), .val (.int 2), .unset, .unset, .unset] [(.int 2)])) rfl (hb hby dj52_16_1) rfl (by decide) (cap := 2) (by decide) (by decide) (by decide) (by decide)
  obtain ⟨b1, g1⟩ : ∃ z, z = h0.size := ⟨_, rfl⟩
  rw [← g1] at A1 st1
  have g_b1 : n0 ≤ b1 := Nat.le_trans (own_osz O0) (Nat.le_of_eq g1.symm)
  have sz_b1 : h0.size ≤ b1 := Nat.le_trans K0.1 (Nat.le_of_eq g1.symm)
  have K2 : Keep h0 h1 [] := K0.ext E1
  have V1 : Arv Z h1 b1 k1 .byte (2 : Int32) [(.int 0), (.int 0)] (.int 0) := (Arv.new A1 (by decide)).pad (pad_rep [] (.int 0) 2)
  have f3 := (V_b.ext E1)
  have f4 := (O0.ext E1)
  obtain ⟨_, _, ⟨T5, L5, k5, n5⟩, -, X5, ⟨Lc5, hQ5, l5, y5, z5⟩, st5⟩ := Jvm.LawKit.callS X1 hx (y := (⟨"java/lang/StringUTF16", "compress", "([CI[BII)I"⟩ : MethodName)) hown (mvT hZ (w_76 hw)) (mvT hZ (w_77 hw)) (mvT hZ (w_74 hw)) (mvT hZ (w_78 hw)) (by decide) (backOf (W := 0) (rm_cm2 l Z a0 hw [] b kb b1 k1 c0 c1 h1 n0 f4 f3 V1 g_b1 (Nat.ne_of_lt (Nat.lt_of_lt_of_le (V_b).lt (Nat.le_of_eq g1.symm))) (hp1 : (own_fi ([c0, c1] : List Int32)) < 2)) hZ (w_78 hw) (w_74 hw) (by decide) (by decide)) (g := (mkF mM 9 #[.val (.ref b), .val (.int 0), .val (.int 2), .val (.ref b1), .unset, .unset] [(.int 2), (.int 0), (.ref b1), (.int 0), (.ref b)])) rfl (by rw [hml]; rfl) (argsL := [(.ref b), (.int 0), (.ref b1), (.int 0), (.int 2)]) (rest := []) (lenOf pd_13 rfl) rfl (by show 2 * 0 + _ ≤ _; exact Nat.le_of_eq rfl) (hb hby dj52_16_9) (fun _ _ => ⟨rfl, e1, (by decide : 1 + 0 ≤ _), (by decide : 2 + 0 ≤ _)⟩)
  dsimp only [Pt.U, Pt.locs, Pt.cells, Pt.slots] at X5 l5 y5 z5 st5 hQ5
  subst l5 y5 z5
  obtain ⟨vs_5, rfl, Nq5, Kq5, q5_0⟩ := hQ5
  have N5 := Fr.app N0 Nq5
  have K6 : Keep h0 T5.heap [] := K2.trans Kq5 (allS (Or.inr sz_b1) all0)
  have f7 := (f3.keep Kq5 (ninS (Nat.ne_of_lt (Nat.lt_of_lt_of_le (V_b).lt (Nat.le_of_eq g1.symm))) nin0))
  have f8 := (f4.keep Kq5 (allS g_b1 all0))
  obtain ⟨_, _, ⟨T9, L9, k9, n9⟩, -, X9, ⟨Lc9, hQ9, l9, y9, z9⟩, st9⟩ := Jvm.LawKit.callS X5 hx (y := (⟨"java/lang/StringUTF16", "toBytes", "([CII)[B"⟩ : MethodName)) hown (mvT hZ (w_88 hw)) (mvT hZ (w_89 hw)) (mvT hZ (w_74 hw)) (mvT hZ (w_90 hw)) (by decide) (backOf (W := 0) (rm_tob2 l Z a0 hw [] b kb c0 c1 T5.heap n0 f8 f7 S__assertionsDisabled S_HI_BYTE_SHIFT S_LO_BYTE_SHIFT) hZ (w_90 hw) (w_74 hw) (by decide) (by decide)) (g := (mkF mM 23 #[.val (.ref b), .val (.int 0), .val (.int 2), .val (.ref b1), .val (.int (Int32.ofNat (own_fi ([c0, c1] : List Int32)))), .unset] [(.int 2), (.int 0), (.ref b)])) rfl (by rw [hml]; rfl) (argsL := [(.ref b), (.int 0), (.int 2)]) (rest := []) (lenOf pd_14 rfl) rfl (by show 2 * 0 + _ ≤ _; exact Nat.le_of_eq rfl) (hb hby dj52_16_23) (fun _ _ => ⟨rfl, rfl, (by decide : 1 + 1 ≤ _), (by decide : 2 + 8 ≤ _)⟩)
  dsimp only [Pt.U, Pt.locs, Pt.cells, Pt.slots] at X9 l9 y9 z9 st9 hQ9
  subst l9 y9 z9
  obtain ⟨t_9, k_9, rfl, Nq9, Kq9, q9_0, q9_1⟩ := hQ9
  have N9 := Fr.app N5 Nq9
  have g_t_9 : n0 ≤ t_9 := Nat.le_trans (own_osz f8) q9_0
  have sz_t_9 : h0.size ≤ t_9 := Nat.le_trans K6.1 q9_0
  have K10 : Keep h0 T9.heap [] := K6.trans Kq9 all0
  have f11 := (f8.keep Kq9 all0)
  obtain ⟨_, _, ⟨T12, L12, k12, n12⟩, -, X12, ⟨Lc12, hQ12, l12, y12, z12⟩, st12⟩ := Jvm.LawKit.callS X9 hx (y := (⟨"java/lang/StringUTF16", "getChar", "([BI)C"⟩ : MethodName)) hown (mvT hZ (w_104 hw)) (mvT hZ (w_105 hw)) (mvT hZ (w_74 hw)) (mvT hZ (w_106 hw)) (by decide) (backOf (W := 0) (rm_gch l Z a0 hw [] t_9 k_9 2 ([c0, c1]) (own_fi ([c0, c1] : List Int32)) T9.heap n0 f11 q9_1 (⟨rfl, by decide⟩ : [c0, c1].length = 2 ∧ 2 ≤ 4) (hp1 : (own_fi ([c0, c1] : List Int32)) < 2) (hp2 : ∀ c ∈ [c0, c1], ¬ c < 0 ∧ ¬ (65535 : Int32) < c) S__assertionsDisabled S_HI_BYTE_SHIFT S_LO_BYTE_SHIFT) hZ (w_106 hw) (w_74 hw) (by decide) (by decide)) (g := (mkF mM 32 #[.val (.ref b), .val (.int 0), .val (.int 2), .val (.ref b1), .val (.int (Int32.ofNat (own_fi ([c0, c1] : List Int32)))), .val (.ref t_9)] [(.int (Int32.ofNat (own_fi ([c0, c1] : List Int32)))), (.ref t_9)])) rfl (by rw [hml]; rfl) (argsL := [(.ref t_9), (.int (Int32.ofNat (own_fi ([c0, c1] : List Int32))))]) (rest := []) (lenOf pd_1 rfl) rfl (by show 2 * 0 + _ ≤ _; exact Nat.le_of_eq rfl) (hb hby dj52_16_32) (fun _ _ => ⟨rfl, rfl, (by decide : 2 + 0 ≤ _), (by decide : 10 + 0 ≤ _)⟩)
  dsimp only [Pt.U, Pt.locs, Pt.cells, Pt.slots] at X12 l12 y12 z12 st12 hQ12
  subst l12 y12 z12
  obtain ⟨rfl, rfl, Kq12⟩ := hQ12
  try rw [List.append_nil] at X12
  obtain ⟨fs, hr, hrun, hended, hW, hsame⟩ := X12.leave (v := some (.ref t_9)) (fun h => by rw [Bd.returns] at h; cases h)
  refine ⟨_, _, pre0 _ ?_, hrun, hended, _, _, rfl, ?_, ⟨_, rfl⟩, hW, hsame.mono (by decide) (by decide)⟩
  · refine XS.iloadN X0.here hx rfl (hb hby dj52_16_0) rfl ?_
    show Steps _ _ _ (s₁.setTop (mkF mM 1 #[.val (.ref b), .val (.int 0), .val (.int 2), .unset, .unset, .unset] [(.int 2)])) _
    refine st1 _ ?_
    show Steps _ _ _ (T1.setTop (mkF mM 3 #[.val (.ref b), .val (.int 0), .val (.int 2), .unset, .unset, .unset] [(.ref b1)])) _
    refine XS.astoreN X1.here hx rfl (hb hby dj52_16_3) rfl rfl (l' := #[.val (.ref b), .val (.int 0), .val (.int 2), .val (.ref b1), .unset, .unset]) rfl ?_
    show Steps _ _ _ (T1.setTop (mkF mM 4 #[.val (.ref b), .val (.int 0), .val (.int 2), .val (.ref b1), .unset, .unset] [])) _
    refine XS.aloadN X1.here hx rfl (hb hby dj52_16_4) rfl rfl ?_
    show Steps _ _ _ (T1.setTop (mkF mM 5 #[.val (.ref b), .val (.int 0), .val (.int 2), .val (.ref b1), .unset, .unset] [(.ref b)])) _
    refine XS.iloadN X1.here hx rfl (hb hby dj52_16_5) rfl ?_
    show Steps _ _ _ (T1.setTop (mkF mM 6 #[.val (.ref b), .val (.int 0), .val (.int 2), .val (.ref b1), .unset, .unset] [(.int 0), (.ref b)])) _
    refine XS.aloadN X1.here hx rfl (hb hby dj52_16_6) rfl rfl ?_
    show Steps _ _ _ (T1.setTop (mkF mM 7 #[.val (.ref b), .val (.int 0), .val (.int 2), .val (.ref b1), .unset, .unset] [(.ref b1), (.int 0), (.ref b)])) _
    refine XS.iconst X1.here hx rfl (hb hby dj52_16_7) ?_
    show Steps _ _ _ (T1.setTop (mkF mM 8 #[.val (.ref b), .val (.int 0), .val (.int 2), .val (.ref b1), .unset, .unset] [(.int 0), (.ref b1), (.int 0), (.ref b)])) _
    refine XS.iloadN X1.here hx rfl (hb hby dj52_16_8) rfl ?_
    show Steps _ _ _ (T1.setTop (mkF mM 9 #[.val (.ref b), .val (.int 0), .val (.int 2), .val (.ref b1), .unset, .unset] [(.int 2), (.int 0), (.ref b1), (.int 0), (.ref b)])) _
    refine st5 _ ?_
    show Steps _ _ _ (T5.setTop (mkF mM 12 #[.val (.ref b), .val (.int 0), .val (.int 2), .val (.ref b1), .unset, .unset] [(.int (Int32.ofNat (own_fi ([c0, c1] : List Int32))))])) _
    refine XS.istore X5.here hx rfl (hb hby dj52_16_12) rfl (l' := #[.val (.ref b), .val (.int 0), .val (.int 2), .val (.ref b1), .val (.int (Int32.ofNat (own_fi ([c0, c1] : List Int32)))), .unset]) rfl ?_
    show Steps _ _ _ (T5.setTop (mkF mM 14 #[.val (.ref b), .val (.int 0), .val (.int 2), .val (.ref b1), .val (.int (Int32.ofNat (own_fi ([c0, c1] : List Int32)))), .unset] [])) _
    refine XS.iload X5.here hx rfl (hb hby dj52_16_14) rfl ?_
    show Steps _ _ _ (T5.setTop (mkF mM 16 #[.val (.ref b), .val (.int 0), .val (.int 2), .val (.ref b1), .val (.int (Int32.ofNat (own_fi ([c0, c1] : List Int32)))), .unset] [(.int (Int32.ofNat (own_fi ([c0, c1] : List Int32))))])) _
    refine XS.iloadN X5.here hx rfl (hb hby dj52_16_16) rfl ?_
    show Steps _ _ _ (T5.setTop (mkF mM 17 #[.val (.ref b), .val (.int 0), .val (.int 2), .val (.ref b1), .val (.int (Int32.ofNat (own_fi ([c0, c1] : List Int32)))), .unset] [(.int 2), (.int (Int32.ofNat (own_fi ([c0, c1] : List Int32))))])) _
    refine XS.icmpNo X5.here hx rfl (hb hby dj52_16_17) rfl (feq (fun q => absurd (own_inj (j := 2) q (by omega) (by omega)) (by omega))).1 ?_
    show Steps _ _ _ (T5.setTop (mkF mM 20 #[.val (.ref b), .val (.int 0), .val (.int 2), .val (.ref b1), .val (.int (Int32.ofNat (own_fi ([c0, c1] : List Int32)))), .unset] [])) _
    refine XS.aloadN X5.here hx rfl (hb hby dj52_16_20) rfl rfl ?_
    show Steps _ _ _ (T5.setTop (mkF mM 21 #[.val (.ref b), .val (.int 0), .val (.int 2), .val (.ref b1), .val (.int (Int32.ofNat (own_fi ([c0, c1] : List Int32)))), .unset] [(.ref b)])) _
    refine XS.iloadN X5.here hx rfl (hb hby dj52_16_21) rfl ?_
    show Steps _ _ _ (T5.setTop (mkF mM 22 #[.val (.ref b), .val (.int 0), .val (.int 2), .val (.ref b1), .val (.int (Int32.ofNat (own_fi ([c0, c1] : List Int32)))), .unset] [(.int 0), (.ref b)])) _
    refine XS.iloadN X5.here hx rfl (hb hby dj52_16_22) rfl ?_
    show Steps _ _ _ (T5.setTop (mkF mM 23 #[.val (.ref b), .val (.int 0), .val (.int 2), .val (.ref b1), .val (.int (Int32.ofNat (own_fi ([c0, c1] : List Int32)))), .unset] [(.int 2), (.int 0), (.ref b)])) _
    refine st9 _ ?_
    show Steps _ _ _ (T9.setTop (mkF mM 26 #[.val (.ref b), .val (.int 0), .val (.int 2), .val (.ref b1), .val (.int (Int32.ofNat (own_fi ([c0, c1] : List Int32)))), .unset] [(.ref t_9)])) _
    refine XS.astore X9.here hx rfl (hb hby dj52_16_26) rfl rfl (l' := #[.val (.ref b), .val (.int 0), .val (.int 2), .val (.ref b1), .val (.int (Int32.ofNat (own_fi ([c0, c1] : List Int32)))), .val (.ref t_9)]) rfl ?_
    show Steps _ _ _ (T9.setTop (mkF mM 28 #[.val (.ref b), .val (.int 0), .val (.int 2), .val (.ref b1), .val (.int (Int32.ofNat (own_fi ([c0, c1] : List Int32)))), .val (.ref t_9)] [])) _
    refine XS.aload X9.here hx rfl (hb hby dj52_16_28) rfl rfl ?_
    show Steps _ _ _ (T9.setTop (mkF mM 30 #[.val (.ref b), .val (.int 0), .val (.int 2), .val (.ref b1), .val (.int (Int32.ofNat (own_fi ([c0, c1] : List Int32)))), .val (.ref t_9)] [(.ref t_9)])) _
    refine XS.iload X9.here hx rfl (hb hby dj52_16_30) rfl ?_
    show Steps _ _ _ (T9.setTop (mkF mM 32 #[.val (.ref b), .val (.int 0), .val (.int 2), .val (.ref b1), .val (.int (Int32.ofNat (own_fi ([c0, c1] : List Int32)))), .val (.ref t_9)] [(.int (Int32.ofNat (own_fi ([c0, c1] : List Int32)))), (.ref t_9)])) _
    refine st12 _ ?_
    show Steps _ _ _ (T12.setTop (mkF mM 35 #[.val (.ref b), .val (.int 0), .val (.int 2), .val (.ref b1), .val (.int (Int32.ofNat (own_fi ([c0, c1] : List Int32)))), .val (.ref t_9)] [(.int ([c0, c1].getD (own_fi ([c0, c1] : List Int32)) 0))])) _
    refine XS.sipush X12.here hx rfl (hb hby dj52_16_35) ?_
    show Steps _ _ _ (T12.setTop (mkF mM 38 #[.val (.ref b), .val (.int 0), .val (.int 2), .val (.ref b1), .val (.int (Int32.ofNat (own_fi ([c0, c1] : List Int32)))), .val (.ref t_9)] [(.int 255), (.int ([c0, c1].getD (own_fi ([c0, c1] : List Int32)) 0))])) _
    refine XS.icmpYes X12.here hx rfl (pc0 := 38) (pc' := 54) rfl (hb hby dj52_16_38) rfl (tlt (own_fi_gt _ hp1)).2.2.1 (by decide) (by decide) ?_
    show Steps _ _ _ (T12.setTop (mkF mM 54 #[.val (.ref b), .val (.int 0), .val (.int 2), .val (.ref b1), .val (.int (Int32.ofNat (own_fi ([c0, c1] : List Int32)))), .val (.ref t_9)] [])) _
    refine XS.aload X12.here hx rfl (hb hby dj52_16_54) rfl rfl ?_
    show Steps _ _ _ (T12.setTop (mkF mM 56 #[.val (.ref b), .val (.int 0), .val (.int 2), .val (.ref b1), .val (.int (Int32.ofNat (own_fi ([c0, c1] : List Int32)))), .val (.ref t_9)] [(.ref t_9)])) _
    jvm_step X12.here [X12.here.top, hx, (hb hby dj52_16_56), X12.method', Bd.returns, Value.isRef, FieldType.isReference]
    first | (intro acts; rw [hr _ acts rfl rfl rfl]) | rw [hr _ _ rfl rfl rfl]
    exact Steps.refl _
  · show Q_cp2 Z b kb c0 c1 h0 n0 _ T12.heap _
    rw [Kq12]
    exact ⟨t_9, k_9, rfl, N9, K10, sz_t_9, q9_1⟩
theorem ef_cp3 (m : MethodId) (x0 : Addr) (x1 : Int32) (x2 : Int32) : entryFrame m #[(.ref x0), (.int x1), (.int x2)] 6 = mkF m 0 #[.val (.ref x0), .val (.int x1), .val (.int x2), .unset, .unset, .unset] [] := by first | (simp [entryFrame, mkF, argsToLocals, Value.category]; done) | rfl
def Q_cp3 (Z : State) (b : Addr) (kb : ClassId) (c0 : Int32) (c1 : Int32) (c2 : Int32) (h0 : Heap) (n0 : Nat) (vV : Option Value) (h : Heap) (LL : List Loc) : Prop := ∃ (a : Addr) (ka : ClassId), vV = some (.ref a) ∧ Fr n0 LL ∧ Keep h0 h [] ∧ h0.size ≤ a ∧ Arv Z h a ka .byte (Int32.ofNat (2 * 3)) (own_u16 [c0, c1, c2]) (.int 0)
set_option maxRecDepth 65536 in
set_option maxHeartbeats 40000000 in
theorem rm_cp3 (l : Launch) (Z : State) (a0 : Array Value) (hw : ∀ d ∈ tables_1, d.before a0 Z = true) (ws : List Jvm.Cond) (b : Addr) (kb : ClassId) (c0 : Int32) (c1 : Int32) (c2 : Int32) (h0 : Heap) (n0 : Nat) (O0 : Old Z n0 h0) (V_b : Arv Z h0 b kb .char (3 : Int32) [(.int c0), (.int c1), (.int c2)] (.int 0)) (hp1 : ((own_fi ([c0, c1, c2] : List Int32)) < 3)) (hp2 : (∀ c ∈ ([c0, c1, c2] : List Int32), ¬ c < 0 ∧ ¬ (65535 : Int32) < c)) (S__assertionsDisabled : Sta Z Z.heap "java/lang/StringUTF16" "$assertionsDisabled" "Z" (.int 1)) (S_HI_BYTE_SHIFT : Sta Z Z.heap "java/lang/StringUTF16" "HI_BYTE_SHIFT" "I" (.int 0)) (S_LO_BYTE_SHIFT : Sta Z Z.heap "java/lang/StringUTF16" "LO_BYTE_SHIFT" "I" (.int 8)) :
    MetFree l (⟨"java/lang/StringUTF16", "compress", "([CII)[B"⟩ : MethodName) (head1 (Jvm.Cond.code (⟨"java/lang/StringUTF16", "compress", "([CII)[B"⟩ : MethodName) jdk_52_method_16_code 6 (some (.array .byte)) :: ws) (⟨3, 2, 11, 40⟩ : Room)) (fun aa_ U => aa_ = #[(.ref b), (.int 0), (.int 3)] ∧ Z.Warmed39 U.vm ∧ U.heap = h0) (fun _ _ _ _ _ => True) (fun _ U o U' => ∃ vV LL, o = .returned vV ∧ Q_cp3 Z b kb c0 c1 c2 h0 n0 vV U'.heap LL ∧ FrameEnd U o U' LL (⟨3, 2, 11, 40⟩ : Room).cells (⟨3, 2, 11, 40⟩ : Room).slots) := by
  refine MetFree.of_bodySF (plainFor_of_name pn_2) hisR ?_
  intro pP eE sS mM args below meth cC s₁ Bd hml0 hP hK
  obtain ⟨rfl, hZ, hh⟩ := hP
  have hx := Bd.exec
  have hby := Bd.bytes
  have hml : cC.maxLocals = 6 := hml0
  have hown : sS.vm.findClass "java/lang/StringUTF16" = some mM.cls := findClass_of_methodNamed Bd.named
  have hnm := (name_of_methodNamed Bd.named Bd.method).1
  have X0 : Stand pP l eE (⟨3, 2, 11, 40⟩ : Room) sS mM #[(.ref b), (.int 0), (.int 3)] below meth cC s₁ [] 0 0 := Stand.of_body Bd
  have e0 : s₁.heap = h0 := by rw [← hh, Bd.state]; rfl
  have N0 := Fr.nil n0
  have pre0 : ∀ tg, Steps pP.tables eE below (s₁.setTop (mkF mM 0 #[.val (.ref b), .val (.int 0), .val (.int 3), .unset, .unset, .unset] [])) tg → Steps pP.tables eE below (s₁.setTop (entryFrame mM #[(.ref b), (.int 0), (.int 3)] 6)) tg := fun tg kg => castTop (ef_cp3 mM b (0 : Int32) (3 : Int32)) kg
  have K0 : Keep h0 h0 [] := Keep.refl _ _
  obtain ⟨T1, h1, k1, X1, e1, E1, A1, st1⟩ := newP X0 hx hZ (aty := .byte) (w_21 hw) e0 (g := (mkF mM 1 #[.val (.ref b), .val (.int 0), .val (.int 3), .unset, .unset, .unset] [(.int 3)])) rfl (hb hby dj52_16_1) rfl (by decide) (cap := 3) (by decide) (by decide) (by decide) (by decide)
  obtain ⟨b1, g1⟩ : ∃ z, z = h0.size := ⟨_, rfl⟩
  rw [← g1] at A1 st1
  have g_b1 : n0 ≤ b1 := Nat.le_trans (own_osz O0) (Nat.le_of_eq g1.symm)
  have sz_b1 : h0.size ≤ b1 := Nat.le_trans K0.1 (Nat.le_of_eq g1.symm)
  have K2 : Keep h0 h1 [] := K0.ext E1
  have V1 : Arv Z h1 b1 k1 .byte (3 : Int32) [(.int 0), (.int 0), (.int 0)] (.int 0) := (Arv.new A1 (by decide)).pad (pad_rep [] (.int 0) 3)
  have f3 := (V_b.ext E1)
  have f4 := (O0.ext E1)
  obtain ⟨_, _, ⟨T5, L5, k5, n5⟩, -, X5, ⟨Lc5, hQ5, l5, y5, z5⟩, st5⟩ := Jvm.LawKit.callS X1 hx (y := (⟨"java/lang/StringUTF16", "compress", "([CI[BII)I"⟩ : MethodName)) hown (mvT hZ (w_76 hw)) (mvT hZ (w_77 hw)) (mvT hZ (w_74 hw)) (mvT hZ (w_78 hw)) (by decide) (backOf (W := 0) (rm_cm3 l Z a0 hw [] b kb b1 k1 c0 c1 c2 h1 n0 f4 f3 V1 g_b1 (Nat.ne_of_lt (Nat.lt_of_lt_of_le (V_b).lt (Nat.le_of_eq g1.symm))) (hp1 : (own_fi ([c0, c1, c2] : List Int32)) < 3)) hZ (w_78 hw) (w_74 hw) (by decide) (by decide)) (g := (mkF mM 9 #[.val (.ref b), .val (.int 0), .val (.int 3), .val (.ref b1), .unset, .unset] [(.int 3), (.int 0), (.ref b1), (.int 0), (.ref b)])) rfl (by rw [hml]; rfl) (argsL := [(.ref b), (.int 0), (.ref b1), (.int 0), (.int 3)]) (rest := []) (lenOf pd_13 rfl) rfl (by show 2 * 0 + _ ≤ _; exact Nat.le_of_eq rfl) (hb hby dj52_16_9) (fun _ _ => ⟨rfl, e1, (by decide : 1 + 0 ≤ _), (by decide : 3 + 0 ≤ _)⟩)
  dsimp only [Pt.U, Pt.locs, Pt.cells, Pt.slots] at X5 l5 y5 z5 st5 hQ5
  subst l5 y5 z5
  obtain ⟨vs_5, rfl, Nq5, Kq5, q5_0⟩ := hQ5
  have N5 := Fr.app N0 Nq5
  have K6 : Keep h0 T5.heap [] := K2.trans Kq5 (allS (Or.inr sz_b1) all0)
  have f7 := (f3.keep Kq5 (ninS (Nat.ne_of_lt (Nat.lt_of_lt_of_le (V_b).lt (Nat.le_of_eq g1.symm))) nin0))
  have f8 := (f4.keep Kq5 (allS g_b1 all0))
  obtain ⟨_, _, ⟨T9, L9, k9, n9⟩, -, X9, ⟨Lc9, hQ9, l9, y9, z9⟩, st9⟩ := Jvm.LawKit.callS X5 hx (y := (⟨"java/lang/StringUTF16", "toBytes", "([CII)[B"⟩ : MethodName)) hown (mvT hZ (w_88 hw)) (mvT hZ (w_89 hw)) (mvT hZ (w_74 hw)) (mvT hZ (w_90 hw)) (by decide) (backOf (W := 0) (rm_tob3 l Z a0 hw [] b kb c0 c1 c2 T5.heap n0 f8 f7 S__assertionsDisabled S_HI_BYTE_SHIFT S_LO_BYTE_SHIFT) hZ (w_90 hw) (w_74 hw) (by decide) (by decide)) (g := (mkF mM 23 #[.val (.ref b), .val (.int 0), .val (.int 3), .val (.ref b1), .val (.int (Int32.ofNat (own_fi ([c0, c1, c2] : List Int32)))), .unset] [(.int 3), (.int 0), (.ref b)])) rfl (by rw [hml]; rfl) (argsL := [(.ref b), (.int 0), (.int 3)]) (rest := []) (lenOf pd_14 rfl) rfl (by show 2 * 0 + _ ≤ _; exact Nat.le_of_eq rfl) (hb hby dj52_16_23) (fun _ _ => ⟨rfl, rfl, (by decide : 1 + 1 ≤ _), (by decide : 3 + 8 ≤ _)⟩)
  dsimp only [Pt.U, Pt.locs, Pt.cells, Pt.slots] at X9 l9 y9 z9 st9 hQ9
  subst l9 y9 z9
  obtain ⟨t_9, k_9, rfl, Nq9, Kq9, q9_0, q9_1⟩ := hQ9
  have N9 := Fr.app N5 Nq9
  have g_t_9 : n0 ≤ t_9 := Nat.le_trans (own_osz f8) q9_0
  have sz_t_9 : h0.size ≤ t_9 := Nat.le_trans K6.1 q9_0
  have K10 : Keep h0 T9.heap [] := K6.trans Kq9 all0
  have f11 := (f8.keep Kq9 all0)
  obtain ⟨_, _, ⟨T12, L12, k12, n12⟩, -, X12, ⟨Lc12, hQ12, l12, y12, z12⟩, st12⟩ := Jvm.LawKit.callS X9 hx (y := (⟨"java/lang/StringUTF16", "getChar", "([BI)C"⟩ : MethodName)) hown (mvT hZ (w_104 hw)) (mvT hZ (w_105 hw)) (mvT hZ (w_74 hw)) (mvT hZ (w_106 hw)) (by decide) (backOf (W := 0) (rm_gch l Z a0 hw [] t_9 k_9 3 ([c0, c1, c2]) (own_fi ([c0, c1, c2] : List Int32)) T9.heap n0 f11 q9_1 (⟨rfl, by decide⟩ : [c0, c1, c2].length = 3 ∧ 3 ≤ 4) (hp1 : (own_fi ([c0, c1, c2] : List Int32)) < 3) (hp2 : ∀ c ∈ [c0, c1, c2], ¬ c < 0 ∧ ¬ (65535 : Int32) < c) S__assertionsDisabled S_HI_BYTE_SHIFT S_LO_BYTE_SHIFT) hZ (w_106 hw) (w_74 hw) (by decide) (by decide)) (g := (mkF mM 32 #[.val (.ref b), .val (.int 0), .val (.int 3), .val (.ref b1), .val (.int (Int32.ofNat (own_fi ([c0, c1, c2] : List Int32)))), .val (.ref t_9)] [(.int (Int32.ofNat (own_fi ([c0, c1, c2] : List Int32)))), (.ref t_9)])) rfl (by rw [hml]; rfl) (argsL := [(.ref t_9), (.int (Int32.ofNat (own_fi ([c0, c1, c2] : List Int32))))]) (rest := []) (lenOf pd_1 rfl) rfl (by show 2 * 0 + _ ≤ _; exact Nat.le_of_eq rfl) (hb hby dj52_16_32) (fun _ _ => ⟨rfl, rfl, (by decide : 2 + 0 ≤ _), (by decide : 11 + 0 ≤ _)⟩)
  dsimp only [Pt.U, Pt.locs, Pt.cells, Pt.slots] at X12 l12 y12 z12 st12 hQ12
  subst l12 y12 z12
  obtain ⟨rfl, rfl, Kq12⟩ := hQ12
  try rw [List.append_nil] at X12
  obtain ⟨fs, hr, hrun, hended, hW, hsame⟩ := X12.leave (v := some (.ref t_9)) (fun h => by rw [Bd.returns] at h; cases h)
  refine ⟨_, _, pre0 _ ?_, hrun, hended, _, _, rfl, ?_, ⟨_, rfl⟩, hW, hsame.mono (by decide) (by decide)⟩
  · refine XS.iloadN X0.here hx rfl (hb hby dj52_16_0) rfl ?_
    show Steps _ _ _ (s₁.setTop (mkF mM 1 #[.val (.ref b), .val (.int 0), .val (.int 3), .unset, .unset, .unset] [(.int 3)])) _
    refine st1 _ ?_
    show Steps _ _ _ (T1.setTop (mkF mM 3 #[.val (.ref b), .val (.int 0), .val (.int 3), .unset, .unset, .unset] [(.ref b1)])) _
    refine XS.astoreN X1.here hx rfl (hb hby dj52_16_3) rfl rfl (l' := #[.val (.ref b), .val (.int 0), .val (.int 3), .val (.ref b1), .unset, .unset]) rfl ?_
    show Steps _ _ _ (T1.setTop (mkF mM 4 #[.val (.ref b), .val (.int 0), .val (.int 3), .val (.ref b1), .unset, .unset] [])) _
    refine XS.aloadN X1.here hx rfl (hb hby dj52_16_4) rfl rfl ?_
    show Steps _ _ _ (T1.setTop (mkF mM 5 #[.val (.ref b), .val (.int 0), .val (.int 3), .val (.ref b1), .unset, .unset] [(.ref b)])) _
    refine XS.iloadN X1.here hx rfl (hb hby dj52_16_5) rfl ?_
    show Steps _ _ _ (T1.setTop (mkF mM 6 #[.val (.ref b), .val (.int 0), .val (.int 3), .val (.ref b1), .unset, .unset] [(.int 0), (.ref b)])) _
    refine XS.aloadN X1.here hx rfl (hb hby dj52_16_6) rfl rfl ?_
    show Steps _ _ _ (T1.setTop (mkF mM 7 #[.val (.ref b), .val (.int 0), .val (.int 3), .val (.ref b1), .unset, .unset] [(.ref b1), (.int 0), (.ref b)])) _
    refine XS.iconst X1.here hx rfl (hb hby dj52_16_7) ?_
    show Steps _ _ _ (T1.setTop (mkF mM 8 #[.val (.ref b), .val (.int 0), .val (.int 3), .val (.ref b1), .unset, .unset] [(.int 0), (.ref b1), (.int 0), (.ref b)])) _
    refine XS.iloadN X1.here hx rfl (hb hby dj52_16_8) rfl ?_
    show Steps _ _ _ (T1.setTop (mkF mM 9 #[.val (.ref b), .val (.int 0), .val (.int 3), .val (.ref b1), .unset, .unset] [(.int 3), (.int 0), (.ref b1), (.int 0), (.ref b)])) _
    refine st5 _ ?_
    show Steps _ _ _ (T5.setTop (mkF mM 12 #[.val (.ref b), .val (.int 0), .val (.int 3), .val (.ref b1), .unset, .unset] [(.int (Int32.ofNat (own_fi ([c0, c1, c2] : List Int32))))])) _
    refine XS.istore X5.here hx rfl (hb hby dj52_16_12) rfl (l' := #[.val (.ref b), .val (.int 0), .val (.int 3), .val (.ref b1), .val (.int (Int32.ofNat (own_fi ([c0, c1, c2] : List Int32)))), .unset]) rfl ?_
    show Steps _ _ _ (T5.setTop (mkF mM 14 #[.val (.ref b), .val (.int 0), .val (.int 3), .val (.ref b1), .val (.int (Int32.ofNat (own_fi ([c0, c1, c2] : List Int32)))), .unset] [])) _
    refine XS.iload X5.here hx rfl (hb hby dj52_16_14) rfl ?_
    show Steps _ _ _ (T5.setTop (mkF mM 16 #[.val (.ref b), .val (.int 0), .val (.int 3), .val (.ref b1), .val (.int (Int32.ofNat (own_fi ([c0, c1, c2] : List Int32)))), .unset] [(.int (Int32.ofNat (own_fi ([c0, c1, c2] : List Int32))))])) _
    refine XS.iloadN X5.here hx rfl (hb hby dj52_16_16) rfl ?_
    show Steps _ _ _ (T5.setTop (mkF mM 17 #[.val (.ref b), .val (.int 0), .val (.int 3), .val (.ref b1), .val (.int (Int32.ofNat (own_fi ([c0, c1, c2] : List Int32)))), .unset] [(.int 3), (.int (Int32.ofNat (own_fi ([c0, c1, c2] : List Int32))))])) _
    refine XS.icmpNo X5.here hx rfl (hb hby dj52_16_17) rfl (feq (fun q => absurd (own_inj (j := 3) q (by omega) (by omega)) (by omega))).1 ?_
    show Steps _ _ _ (T5.setTop (mkF mM 20 #[.val (.ref b), .val (.int 0), .val (.int 3), .val (.ref b1), .val (.int (Int32.ofNat (own_fi ([c0, c1, c2] : List Int32)))), .unset] [])) _
    refine XS.aloadN X5.here hx rfl (hb hby dj52_16_20) rfl rfl ?_
    show Steps _ _ _ (T5.setTop (mkF mM 21 #[.val (.ref b), .val (.int 0), .val (.int 3), .val (.ref b1), .val (.int (Int32.ofNat (own_fi ([c0, c1, c2] : List Int32)))), .unset] [(.ref b)])) _
    refine XS.iloadN X5.here hx rfl (hb hby dj52_16_21) rfl ?_
    show Steps _ _ _ (T5.setTop (mkF mM 22 #[.val (.ref b), .val (.int 0), .val (.int 3), .val (.ref b1), .val (.int (Int32.ofNat (own_fi ([c0, c1, c2] : List Int32)))), .unset] [(.int 0), (.ref b)])) _
    refine XS.iloadN X5.here hx rfl (hb hby dj52_16_22) rfl ?_
    show Steps _ _ _ (T5.setTop (mkF mM 23 #[.val (.ref b), .val (.int 0), .val (.int 3), .val (.ref b1), .val (.int (Int32.ofNat (own_fi ([c0, c1, c2] : List Int32)))), .unset] [(.int 3), (.int 0), (.ref b)])) _
    refine st9 _ ?_
    show Steps _ _ _ (T9.setTop (mkF mM 26 #[.val (.ref b), .val (.int 0), .val (.int 3), .val (.ref b1), .val (.int (Int32.ofNat (own_fi ([c0, c1, c2] : List Int32)))), .unset] [(.ref t_9)])) _
    refine XS.astore X9.here hx rfl (hb hby dj52_16_26) rfl rfl (l' := #[.val (.ref b), .val (.int 0), .val (.int 3), .val (.ref b1), .val (.int (Int32.ofNat (own_fi ([c0, c1, c2] : List Int32)))), .val (.ref t_9)]) rfl ?_
    show Steps _ _ _ (T9.setTop (mkF mM 28 #[.val (.ref b), .val (.int 0), .val (.int 3), .val (.ref b1), .val (.int (Int32.ofNat (own_fi ([c0, c1, c2] : List Int32)))), .val (.ref t_9)] [])) _
    refine XS.aload X9.here hx rfl (hb hby dj52_16_28) rfl rfl ?_
    show Steps _ _ _ (T9.setTop (mkF mM 30 #[.val (.ref b), .val (.int 0), .val (.int 3), .val (.ref b1), .val (.int (Int32.ofNat (own_fi ([c0, c1, c2] : List Int32)))), .val (.ref t_9)] [(.ref t_9)])) _
    refine XS.iload X9.here hx rfl (hb hby dj52_16_30) rfl ?_
    show Steps _ _ _ (T9.setTop (mkF mM 32 #[.val (.ref b), .val (.int 0), .val (.int 3), .val (.ref b1), .val (.int (Int32.ofNat (own_fi ([c0, c1, c2] : List Int32)))), .val (.ref t_9)] [(.int (Int32.ofNat (own_fi ([c0, c1, c2] : List Int32)))), (.ref t_9)])) _
    refine st12 _ ?_
    show Steps _ _ _ (T12.setTop (mkF mM 35 #[.val (.ref b), .val (.int 0), .val (.int 3), .val (.ref b1), .val (.int (Int32.ofNat (own_fi ([c0, c1, c2] : List Int32)))), .val (.ref t_9)] [(.int ([c0, c1, c2].getD (own_fi ([c0, c1, c2] : List Int32)) 0))])) _
    refine XS.sipush X12.here hx rfl (hb hby dj52_16_35) ?_
    show Steps _ _ _ (T12.setTop (mkF mM 38 #[.val (.ref b), .val (.int 0), .val (.int 3), .val (.ref b1), .val (.int (Int32.ofNat (own_fi ([c0, c1, c2] : List Int32)))), .val (.ref t_9)] [(.int 255), (.int ([c0, c1, c2].getD (own_fi ([c0, c1, c2] : List Int32)) 0))])) _
    refine XS.icmpYes X12.here hx rfl (pc0 := 38) (pc' := 54) rfl (hb hby dj52_16_38) rfl (tlt (own_fi_gt _ hp1)).2.2.1 (by decide) (by decide) ?_
    show Steps _ _ _ (T12.setTop (mkF mM 54 #[.val (.ref b), .val (.int 0), .val (.int 3), .val (.ref b1), .val (.int (Int32.ofNat (own_fi ([c0, c1, c2] : List Int32)))), .val (.ref t_9)] [])) _
    refine XS.aload X12.here hx rfl (hb hby dj52_16_54) rfl rfl ?_
    show Steps _ _ _ (T12.setTop (mkF mM 56 #[.val (.ref b), .val (.int 0), .val (.int 3), .val (.ref b1), .val (.int (Int32.ofNat (own_fi ([c0, c1, c2] : List Int32)))), .val (.ref t_9)] [(.ref t_9)])) _
    jvm_step X12.here [X12.here.top, hx, (hb hby dj52_16_56), X12.method', Bd.returns, Value.isRef, FieldType.isReference]
    first | (intro acts; rw [hr _ acts rfl rfl rfl]) | rw [hr _ _ rfl rfl rfl]
    exact Steps.refl _
  · show Q_cp3 Z b kb c0 c1 c2 h0 n0 _ T12.heap _
    rw [Kq12]
    exact ⟨t_9, k_9, rfl, N9, K10, sz_t_9, q9_1⟩
theorem ef_cp4 (m : MethodId) (x0 : Addr) (x1 : Int32) (x2 : Int32) : entryFrame m #[(.ref x0), (.int x1), (.int x2)] 6 = mkF m 0 #[.val (.ref x0), .val (.int x1), .val (.int x2), .unset, .unset, .unset] [] := by first | (simp [entryFrame, mkF, argsToLocals, Value.category]; done) | rfl
def Q_cp4 (Z : State) (b : Addr) (kb : ClassId) (c0 : Int32) (c1 : Int32) (c2 : Int32) (c3 : Int32) (h0 : Heap) (n0 : Nat) (vV : Option Value) (h : Heap) (LL : List Loc) : Prop := ∃ (a : Addr) (ka : ClassId), vV = some (.ref a) ∧ Fr n0 LL ∧ Keep h0 h [] ∧ h0.size ≤ a ∧ Arv Z h a ka .byte (Int32.ofNat (2 * 4)) (own_u16 [c0, c1, c2, c3]) (.int 0)
set_option maxRecDepth 65536 in
set_option maxHeartbeats 40000000 in
theorem rm_cp4 (l : Launch) (Z : State) (a0 : Array Value) (hw : ∀ d ∈ tables_1, d.before a0 Z = true) (ws : List Jvm.Cond) (b : Addr) (kb : ClassId) (c0 : Int32) (c1 : Int32) (c2 : Int32) (c3 : Int32) (h0 : Heap) (n0 : Nat) (O0 : Old Z n0 h0) (V_b : Arv Z h0 b kb .char (4 : Int32) [(.int c0), (.int c1), (.int c2), (.int c3)] (.int 0)) (hp1 : ((own_fi ([c0, c1, c2, c3] : List Int32)) < 4)) (hp2 : (∀ c ∈ ([c0, c1, c2, c3] : List Int32), ¬ c < 0 ∧ ¬ (65535 : Int32) < c)) (S__assertionsDisabled : Sta Z Z.heap "java/lang/StringUTF16" "$assertionsDisabled" "Z" (.int 1)) (S_HI_BYTE_SHIFT : Sta Z Z.heap "java/lang/StringUTF16" "HI_BYTE_SHIFT" "I" (.int 0)) (S_LO_BYTE_SHIFT : Sta Z Z.heap "java/lang/StringUTF16" "LO_BYTE_SHIFT" "I" (.int 8)) :
    MetFree l (⟨"java/lang/StringUTF16", "compress", "([CII)[B"⟩ : MethodName) (head1 (Jvm.Cond.code (⟨"java/lang/StringUTF16", "compress", "([CII)[B"⟩ : MethodName) jdk_52_method_16_code 6 (some (.array .byte)) :: ws) (⟨3, 2, 12, 40⟩ : Room)) (fun aa_ U => aa_ = #[(.ref b), (.int 0), (.int 4)] ∧ Z.Warmed39 U.vm ∧ U.heap = h0) (fun _ _ _ _ _ => True) (fun _ U o U' => ∃ vV LL, o = .returned vV ∧ Q_cp4 Z b kb c0 c1 c2 c3 h0 n0 vV U'.heap LL ∧ FrameEnd U o U' LL (⟨3, 2, 12, 40⟩ : Room).cells (⟨3, 2, 12, 40⟩ : Room).slots) := by
  refine MetFree.of_bodySF (plainFor_of_name pn_2) hisR ?_
  intro pP eE sS mM args below meth cC s₁ Bd hml0 hP hK
  obtain ⟨rfl, hZ, hh⟩ := hP
  have hx := Bd.exec
  have hby := Bd.bytes
  have hml : cC.maxLocals = 6 := hml0
  have hown : sS.vm.findClass "java/lang/StringUTF16" = some mM.cls := findClass_of_methodNamed Bd.named
  have hnm := (name_of_methodNamed Bd.named Bd.method).1
  have X0 : Stand pP l eE (⟨3, 2, 12, 40⟩ : Room) sS mM #[(.ref b), (.int 0), (.int 4)] below meth cC s₁ [] 0 0 := Stand.of_body Bd
  have e0 : s₁.heap = h0 := by rw [← hh, Bd.state]; rfl
  have N0 := Fr.nil n0
  have pre0 : ∀ tg, Steps pP.tables eE below (s₁.setTop (mkF mM 0 #[.val (.ref b), .val (.int 0), .val (.int 4), .unset, .unset, .unset] [])) tg → Steps pP.tables eE below (s₁.setTop (entryFrame mM #[(.ref b), (.int 0), (.int 4)] 6)) tg := fun tg kg => castTop (ef_cp4 mM b (0 : Int32) (4 : Int32)) kg
  have K0 : Keep h0 h0 [] := Keep.refl _ _
  obtain ⟨T1, h1, k1, X1, e1, E1, A1, st1⟩ := newP X0 hx hZ (aty := .byte) (w_21 hw) e0 (g := (mkF mM 1 #[.val (.ref b), .val (.int 0), .val (.int 4), .unset, .unset, .unset] [(.int 4)])) rfl (hb hby dj52_16_1) rfl (by decide) (cap := 4) (by decide) (by decide) (by decide) (by decide)
  obtain ⟨b1, g1⟩ : ∃ z, z = h0.size := ⟨_, rfl⟩
  rw [← g1] at A1 st1
  have g_b1 : n0 ≤ b1 := Nat.le_trans (own_osz O0) (Nat.le_of_eq g1.symm)
  have sz_b1 : h0.size ≤ b1 := Nat.le_trans K0.1 (Nat.le_of_eq g1.symm)
  have K2 : Keep h0 h1 [] := K0.ext E1
  have V1 : Arv Z h1 b1 k1 .byte (4 : Int32) [(.int 0), (.int 0), (.int 0), (.int 0)] (.int 0) := (Arv.new A1 (by decide)).pad (pad_rep [] (.int 0) 4)
  have f3 := (V_b.ext E1)
  have f4 := (O0.ext E1)
  obtain ⟨_, _, ⟨T5, L5, k5, n5⟩, -, X5, ⟨Lc5, hQ5, l5, y5, z5⟩, st5⟩ := Jvm.LawKit.callS X1 hx (y := (⟨"java/lang/StringUTF16", "compress", "([CI[BII)I"⟩ : MethodName)) hown (mvT hZ (w_76 hw)) (mvT hZ (w_77 hw)) (mvT hZ (w_74 hw)) (mvT hZ (w_78 hw)) (by decide) (backOf (W := 0) (rm_cm4 l Z a0 hw [] b kb b1 k1 c0 c1 c2 c3 h1 n0 f4 f3 V1 g_b1 (Nat.ne_of_lt (Nat.lt_of_lt_of_le (V_b).lt (Nat.le_of_eq g1.symm))) (hp1 : (own_fi ([c0, c1, c2, c3] : List Int32)) < 4)) hZ (w_78 hw) (w_74 hw) (by decide) (by decide)) (g := (mkF mM 9 #[.val (.ref b), .val (.int 0), .val (.int 4), .val (.ref b1), .unset, .unset] [(.int 4), (.int 0), (.ref b1), (.int 0), (.ref b)])) rfl (by rw [hml]; rfl) (argsL := [(.ref b), (.int 0), (.ref b1), (.int 0), (.int 4)]) (rest := []) (lenOf pd_13 rfl) rfl (by show 2 * 0 + _ ≤ _; exact Nat.le_of_eq rfl) (hb hby dj52_16_9) (fun _ _ => ⟨rfl, e1, (by decide : 1 + 0 ≤ _), (by decide : 4 + 0 ≤ _)⟩)
  dsimp only [Pt.U, Pt.locs, Pt.cells, Pt.slots] at X5 l5 y5 z5 st5 hQ5
  subst l5 y5 z5
  obtain ⟨vs_5, rfl, Nq5, Kq5, q5_0⟩ := hQ5
  have N5 := Fr.app N0 Nq5
  have K6 : Keep h0 T5.heap [] := K2.trans Kq5 (allS (Or.inr sz_b1) all0)
  have f7 := (f3.keep Kq5 (ninS (Nat.ne_of_lt (Nat.lt_of_lt_of_le (V_b).lt (Nat.le_of_eq g1.symm))) nin0))
  have f8 := (f4.keep Kq5 (allS g_b1 all0))
  obtain ⟨_, _, ⟨T9, L9, k9, n9⟩, -, X9, ⟨Lc9, hQ9, l9, y9, z9⟩, st9⟩ := Jvm.LawKit.callS X5 hx (y := (⟨"java/lang/StringUTF16", "toBytes", "([CII)[B"⟩ : MethodName)) hown (mvT hZ (w_88 hw)) (mvT hZ (w_89 hw)) (mvT hZ (w_74 hw)) (mvT hZ (w_90 hw)) (by decide) (backOf (W := 0) (rm_tob4 l Z a0 hw [] b kb c0 c1 c2 c3 T5.heap n0 f8 f7 S__assertionsDisabled S_HI_BYTE_SHIFT S_LO_BYTE_SHIFT) hZ (w_90 hw) (w_74 hw) (by decide) (by decide)) (g := (mkF mM 23 #[.val (.ref b), .val (.int 0), .val (.int 4), .val (.ref b1), .val (.int (Int32.ofNat (own_fi ([c0, c1, c2, c3] : List Int32)))), .unset] [(.int 4), (.int 0), (.ref b)])) rfl (by rw [hml]; rfl) (argsL := [(.ref b), (.int 0), (.int 4)]) (rest := []) (lenOf pd_14 rfl) rfl (by show 2 * 0 + _ ≤ _; exact Nat.le_of_eq rfl) (hb hby dj52_16_23) (fun _ _ => ⟨rfl, rfl, (by decide : 1 + 1 ≤ _), (by decide : 4 + 8 ≤ _)⟩)
  dsimp only [Pt.U, Pt.locs, Pt.cells, Pt.slots] at X9 l9 y9 z9 st9 hQ9
  subst l9 y9 z9
  obtain ⟨t_9, k_9, rfl, Nq9, Kq9, q9_0, q9_1⟩ := hQ9
  have N9 := Fr.app N5 Nq9
  have g_t_9 : n0 ≤ t_9 := Nat.le_trans (own_osz f8) q9_0
  have sz_t_9 : h0.size ≤ t_9 := Nat.le_trans K6.1 q9_0
  have K10 : Keep h0 T9.heap [] := K6.trans Kq9 all0
  have f11 := (f8.keep Kq9 all0)
  obtain ⟨_, _, ⟨T12, L12, k12, n12⟩, -, X12, ⟨Lc12, hQ12, l12, y12, z12⟩, st12⟩ := Jvm.LawKit.callS X9 hx (y := (⟨"java/lang/StringUTF16", "getChar", "([BI)C"⟩ : MethodName)) hown (mvT hZ (w_104 hw)) (mvT hZ (w_105 hw)) (mvT hZ (w_74 hw)) (mvT hZ (w_106 hw)) (by decide) (backOf (W := 0) (rm_gch l Z a0 hw [] t_9 k_9 4 ([c0, c1, c2, c3]) (own_fi ([c0, c1, c2, c3] : List Int32)) T9.heap n0 f11 q9_1 (⟨rfl, by decide⟩ : [c0, c1, c2, c3].length = 4 ∧ 4 ≤ 4) (hp1 : (own_fi ([c0, c1, c2, c3] : List Int32)) < 4) (hp2 : ∀ c ∈ [c0, c1, c2, c3], ¬ c < 0 ∧ ¬ (65535 : Int32) < c) S__assertionsDisabled S_HI_BYTE_SHIFT S_LO_BYTE_SHIFT) hZ (w_106 hw) (w_74 hw) (by decide) (by decide)) (g := (mkF mM 32 #[.val (.ref b), .val (.int 0), .val (.int 4), .val (.ref b1), .val (.int (Int32.ofNat (own_fi ([c0, c1, c2, c3] : List Int32)))), .val (.ref t_9)] [(.int (Int32.ofNat (own_fi ([c0, c1, c2, c3] : List Int32)))), (.ref t_9)])) rfl (by rw [hml]; rfl) (argsL := [(.ref t_9), (.int (Int32.ofNat (own_fi ([c0, c1, c2, c3] : List Int32))))]) (rest := []) (lenOf pd_1 rfl) rfl (by show 2 * 0 + _ ≤ _; exact Nat.le_of_eq rfl) (hb hby dj52_16_32) (fun _ _ => ⟨rfl, rfl, (by decide : 2 + 0 ≤ _), (by decide : 12 + 0 ≤ _)⟩)
  dsimp only [Pt.U, Pt.locs, Pt.cells, Pt.slots] at X12 l12 y12 z12 st12 hQ12
  subst l12 y12 z12
  obtain ⟨rfl, rfl, Kq12⟩ := hQ12
  try rw [List.append_nil] at X12
  obtain ⟨fs, hr, hrun, hended, hW, hsame⟩ := X12.leave (v := some (.ref t_9)) (fun h => by rw [Bd.returns] at h; cases h)
  refine ⟨_, _, pre0 _ ?_, hrun, hended, _, _, rfl, ?_, ⟨_, rfl⟩, hW, hsame.mono (by decide) (by decide)⟩
  · refine XS.iloadN X0.here hx rfl (hb hby dj52_16_0) rfl ?_
    show Steps _ _ _ (s₁.setTop (mkF mM 1 #[.val (.ref b), .val (.int 0), .val (.int 4), .unset, .unset, .unset] [(.int 4)])) _
    refine st1 _ ?_
    show Steps _ _ _ (T1.setTop (mkF mM 3 #[.val (.ref b), .val (.int 0), .val (.int 4), .unset, .unset, .unset] [(.ref b1)])) _
    refine XS.astoreN X1.here hx rfl (hb hby dj52_16_3) rfl rfl (l' := #[.val (.ref b), .val (.int 0), .val (.int 4), .val (.ref b1), .unset, .unset]) rfl ?_
    show Steps _ _ _ (T1.setTop (mkF mM 4 #[.val (.ref b), .val (.int 0), .val (.int 4), .val (.ref b1), .unset, .unset] [])) _
    refine XS.aloadN X1.here hx rfl (hb hby dj52_16_4) rfl rfl ?_
    show Steps _ _ _ (T1.setTop (mkF mM 5 #[.val (.ref b), .val (.int 0), .val (.int 4), .val (.ref b1), .unset, .unset] [(.ref b)])) _
    refine XS.iloadN X1.here hx rfl (hb hby dj52_16_5) rfl ?_
    show Steps _ _ _ (T1.setTop (mkF mM 6 #[.val (.ref b), .val (.int 0), .val (.int 4), .val (.ref b1), .unset, .unset] [(.int 0), (.ref b)])) _
    refine XS.aloadN X1.here hx rfl (hb hby dj52_16_6) rfl rfl ?_
    show Steps _ _ _ (T1.setTop (mkF mM 7 #[.val (.ref b), .val (.int 0), .val (.int 4), .val (.ref b1), .unset, .unset] [(.ref b1), (.int 0), (.ref b)])) _
    refine XS.iconst X1.here hx rfl (hb hby dj52_16_7) ?_
    show Steps _ _ _ (T1.setTop (mkF mM 8 #[.val (.ref b), .val (.int 0), .val (.int 4), .val (.ref b1), .unset, .unset] [(.int 0), (.ref b1), (.int 0), (.ref b)])) _
    refine XS.iloadN X1.here hx rfl (hb hby dj52_16_8) rfl ?_
    show Steps _ _ _ (T1.setTop (mkF mM 9 #[.val (.ref b), .val (.int 0), .val (.int 4), .val (.ref b1), .unset, .unset] [(.int 4), (.int 0), (.ref b1), (.int 0), (.ref b)])) _
    refine st5 _ ?_
    show Steps _ _ _ (T5.setTop (mkF mM 12 #[.val (.ref b), .val (.int 0), .val (.int 4), .val (.ref b1), .unset, .unset] [(.int (Int32.ofNat (own_fi ([c0, c1, c2, c3] : List Int32))))])) _
    refine XS.istore X5.here hx rfl (hb hby dj52_16_12) rfl (l' := #[.val (.ref b), .val (.int 0), .val (.int 4), .val (.ref b1), .val (.int (Int32.ofNat (own_fi ([c0, c1, c2, c3] : List Int32)))), .unset]) rfl ?_
    show Steps _ _ _ (T5.setTop (mkF mM 14 #[.val (.ref b), .val (.int 0), .val (.int 4), .val (.ref b1), .val (.int (Int32.ofNat (own_fi ([c0, c1, c2, c3] : List Int32)))), .unset] [])) _
    refine XS.iload X5.here hx rfl (hb hby dj52_16_14) rfl ?_
    show Steps _ _ _ (T5.setTop (mkF mM 16 #[.val (.ref b), .val (.int 0), .val (.int 4), .val (.ref b1), .val (.int (Int32.ofNat (own_fi ([c0, c1, c2, c3] : List Int32)))), .unset] [(.int (Int32.ofNat (own_fi ([c0, c1, c2, c3] : List Int32))))])) _
    refine XS.iloadN X5.here hx rfl (hb hby dj52_16_16) rfl ?_
    show Steps _ _ _ (T5.setTop (mkF mM 17 #[.val (.ref b), .val (.int 0), .val (.int 4), .val (.ref b1), .val (.int (Int32.ofNat (own_fi ([c0, c1, c2, c3] : List Int32)))), .unset] [(.int 4), (.int (Int32.ofNat (own_fi ([c0, c1, c2, c3] : List Int32))))])) _
    refine XS.icmpNo X5.here hx rfl (hb hby dj52_16_17) rfl (feq (fun q => absurd (own_inj (j := 4) q (by omega) (by omega)) (by omega))).1 ?_
    show Steps _ _ _ (T5.setTop (mkF mM 20 #[.val (.ref b), .val (.int 0), .val (.int 4), .val (.ref b1), .val (.int (Int32.ofNat (own_fi ([c0, c1, c2, c3] : List Int32)))), .unset] [])) _
    refine XS.aloadN X5.here hx rfl (hb hby dj52_16_20) rfl rfl ?_
    show Steps _ _ _ (T5.setTop (mkF mM 21 #[.val (.ref b), .val (.int 0), .val (.int 4), .val (.ref b1), .val (.int (Int32.ofNat (own_fi ([c0, c1, c2, c3] : List Int32)))), .unset] [(.ref b)])) _
    refine XS.iloadN X5.here hx rfl (hb hby dj52_16_21) rfl ?_
    show Steps _ _ _ (T5.setTop (mkF mM 22 #[.val (.ref b), .val (.int 0), .val (.int 4), .val (.ref b1), .val (.int (Int32.ofNat (own_fi ([c0, c1, c2, c3] : List Int32)))), .unset] [(.int 0), (.ref b)])) _
    refine XS.iloadN X5.here hx rfl (hb hby dj52_16_22) rfl ?_
    show Steps _ _ _ (T5.setTop (mkF mM 23 #[.val (.ref b), .val (.int 0), .val (.int 4), .val (.ref b1), .val (.int (Int32.ofNat (own_fi ([c0, c1, c2, c3] : List Int32)))), .unset] [(.int 4), (.int 0), (.ref b)])) _
    refine st9 _ ?_
    show Steps _ _ _ (T9.setTop (mkF mM 26 #[.val (.ref b), .val (.int 0), .val (.int 4), .val (.ref b1), .val (.int (Int32.ofNat (own_fi ([c0, c1, c2, c3] : List Int32)))), .unset] [(.ref t_9)])) _
    refine XS.astore X9.here hx rfl (hb hby dj52_16_26) rfl rfl (l' := #[.val (.ref b), .val (.int 0), .val (.int 4), .val (.ref b1), .val (.int (Int32.ofNat (own_fi ([c0, c1, c2, c3] : List Int32)))), .val (.ref t_9)]) rfl ?_
    show Steps _ _ _ (T9.setTop (mkF mM 28 #[.val (.ref b), .val (.int 0), .val (.int 4), .val (.ref b1), .val (.int (Int32.ofNat (own_fi ([c0, c1, c2, c3] : List Int32)))), .val (.ref t_9)] [])) _
    refine XS.aload X9.here hx rfl (hb hby dj52_16_28) rfl rfl ?_
    show Steps _ _ _ (T9.setTop (mkF mM 30 #[.val (.ref b), .val (.int 0), .val (.int 4), .val (.ref b1), .val (.int (Int32.ofNat (own_fi ([c0, c1, c2, c3] : List Int32)))), .val (.ref t_9)] [(.ref t_9)])) _
    refine XS.iload X9.here hx rfl (hb hby dj52_16_30) rfl ?_
    show Steps _ _ _ (T9.setTop (mkF mM 32 #[.val (.ref b), .val (.int 0), .val (.int 4), .val (.ref b1), .val (.int (Int32.ofNat (own_fi ([c0, c1, c2, c3] : List Int32)))), .val (.ref t_9)] [(.int (Int32.ofNat (own_fi ([c0, c1, c2, c3] : List Int32)))), (.ref t_9)])) _
    refine st12 _ ?_
    show Steps _ _ _ (T12.setTop (mkF mM 35 #[.val (.ref b), .val (.int 0), .val (.int 4), .val (.ref b1), .val (.int (Int32.ofNat (own_fi ([c0, c1, c2, c3] : List Int32)))), .val (.ref t_9)] [(.int ([c0, c1, c2, c3].getD (own_fi ([c0, c1, c2, c3] : List Int32)) 0))])) _
    refine XS.sipush X12.here hx rfl (hb hby dj52_16_35) ?_
    show Steps _ _ _ (T12.setTop (mkF mM 38 #[.val (.ref b), .val (.int 0), .val (.int 4), .val (.ref b1), .val (.int (Int32.ofNat (own_fi ([c0, c1, c2, c3] : List Int32)))), .val (.ref t_9)] [(.int 255), (.int ([c0, c1, c2, c3].getD (own_fi ([c0, c1, c2, c3] : List Int32)) 0))])) _
    refine XS.icmpYes X12.here hx rfl (pc0 := 38) (pc' := 54) rfl (hb hby dj52_16_38) rfl (tlt (own_fi_gt _ hp1)).2.2.1 (by decide) (by decide) ?_
    show Steps _ _ _ (T12.setTop (mkF mM 54 #[.val (.ref b), .val (.int 0), .val (.int 4), .val (.ref b1), .val (.int (Int32.ofNat (own_fi ([c0, c1, c2, c3] : List Int32)))), .val (.ref t_9)] [])) _
    refine XS.aload X12.here hx rfl (hb hby dj52_16_54) rfl rfl ?_
    show Steps _ _ _ (T12.setTop (mkF mM 56 #[.val (.ref b), .val (.int 0), .val (.int 4), .val (.ref b1), .val (.int (Int32.ofNat (own_fi ([c0, c1, c2, c3] : List Int32)))), .val (.ref t_9)] [(.ref t_9)])) _
    jvm_step X12.here [X12.here.top, hx, (hb hby dj52_16_56), X12.method', Bd.returns, Value.isRef, FieldType.isReference]
    first | (intro acts; rw [hr _ acts rfl rfl rfl]) | rw [hr _ _ rfl rfl rfl]
    exact Steps.refl _
  · show Q_cp4 Z b kb c0 c1 c2 c3 h0 n0 _ T12.heap _
    rw [Kq12]
    exact ⟨t_9, k_9, rfl, N9, K10, sz_t_9, q9_1⟩
theorem ef_cfa1 (m : MethodId) (x0 : Addr) (x1 : Int32) : entryFrame m #[(.ref x0), (.int x1)] 2 = mkF m 0 #[.val (.ref x0), .val (.int x1)] [] := by first | (simp [entryFrame, mkF, argsToLocals, Value.category]; done) | rfl
def Q_cfa1 (Z : State) (t : Addr) (k : ClassId) (vs : List Value) (h0 : Heap) (n0 : Nat) (vV : Option Value) (h : Heap) (LL : List Loc) : Prop := vV = some (.int 1) ∧ LL = [] ∧ h = h0
set_option maxRecDepth 65536 in
set_option maxHeartbeats 40000000 in
theorem rm_cfa1 (l : Launch) (Z : State) (a0 : Array Value) (hw : ∀ d ∈ tables_1, d.before a0 Z = true) (ws : List Jvm.Cond) (t : Addr) (k : ClassId) (vs : List Value) (h0 : Heap) (n0 : Nat) (O0 : Old Z n0 h0) (V_t : Arv Z h0 t k .byte (Int32.ofNat (2 * 1)) vs (.int 0)) :
    MetFree l (⟨"java/lang/StringUTF16", "coderFromArrayLen", "([BI)B"⟩ : MethodName) (head1 (Jvm.Cond.code (⟨"java/lang/StringUTF16", "coderFromArrayLen", "([BI)B"⟩ : MethodName) jdk_52_method_15_code 2 (some .byte) :: ws) (⟨0, 0, 0, 0⟩ : Room)) (fun aa_ U => aa_ = #[(.ref t), (.int 1)] ∧ Z.Warmed39 U.vm ∧ U.heap = h0) (fun _ _ _ _ _ => True) (fun _ U o U' => ∃ vV LL, o = .returned vV ∧ Q_cfa1 Z t k vs h0 n0 vV U'.heap LL ∧ FrameEnd U o U' LL (⟨0, 0, 0, 0⟩ : Room).cells (⟨0, 0, 0, 0⟩ : Room).slots) := by
  refine MetFree.of_bodySF (plainFor_of_name pn_2) hisR ?_
  intro pP eE sS mM args below meth cC s₁ Bd hml0 hP hK
  obtain ⟨rfl, hZ, hh⟩ := hP
  have hx := Bd.exec
  have hby := Bd.bytes
  have hml : cC.maxLocals = 2 := hml0
  have hown : sS.vm.findClass "java/lang/StringUTF16" = some mM.cls := findClass_of_methodNamed Bd.named
  have hnm := (name_of_methodNamed Bd.named Bd.method).1
  have X0 : Stand pP l eE (⟨0, 0, 0, 0⟩ : Room) sS mM #[(.ref t), (.int 1)] below meth cC s₁ [] 0 0 := Stand.of_body Bd
  have e0 : s₁.heap = h0 := by rw [← hh, Bd.state]; rfl
  have N0 := Fr.nil n0
  have pre0 : ∀ tg, Steps pP.tables eE below (s₁.setTop (mkF mM 0 #[.val (.ref t), .val (.int 1)] [])) tg → Steps pP.tables eE below (s₁.setTop (entryFrame mM #[(.ref t), (.int 1)] 2)) tg := fun tg kg => castTop (ef_cfa1 mM t (1 : Int32)) kg
  obtain ⟨cl1, Ar1, -, S1, Nn1, -, -⟩ := id V_t
  obtain ⟨fs, hr, hrun, hended, hW, hsame⟩ := X0.leave (v := some (.int (nar .byte (((((1 : Int32) - (Int32.ofNat (2 * 1))).toUInt32 >>> ((31 : Int32) &&& 31).toUInt32).toInt32).toInt8.toInt32)))) (fun h => by rw [Bd.returns] at h; cases h)
  refine ⟨_, _, pre0 _ ?_, hrun, hended, _, _, rfl, ?_, ⟨_, rfl⟩, hW, hsame.mono (by decide) (by decide)⟩
  · refine XS.iloadN X0.here hx rfl (hb hby dj52_15_0) rfl ?_
    show Steps _ _ _ (s₁.setTop (mkF mM 1 #[.val (.ref t), .val (.int 1)] [(.int 1)])) _
    refine XS.aloadN X0.here hx rfl (hb hby dj52_15_1) rfl rfl ?_
    show Steps _ _ _ (s₁.setTop (mkF mM 2 #[.val (.ref t), .val (.int 1)] [(.ref t), (.int 1)])) _
    refine X0.arraylength hx (by rw [e0]; exact Ar1.1) (State.isArrayOf_alike hZ.alike Ar1.2.1) (g := (mkF mM 2 #[.val (.ref t), .val (.int 1)] [(.ref t), (.int 1)])) rfl rfl (hb hby dj52_15_2) _ ?_
    rw [len_of S1 Nn1]
    show Steps _ _ _ (s₁.setTop (mkF mM 3 #[.val (.ref t), .val (.int 1)] [(.int (Int32.ofNat (2 * 1))), (.int 1)])) _
    refine XS.isub X0.here hx rfl (hb hby dj52_15_3) rfl ?_
    show Steps _ _ _ (s₁.setTop (mkF mM 4 #[.val (.ref t), .val (.int 1)] [(.int ((1 : Int32) - (Int32.ofNat (2 * 1))))])) _
    refine XS.bipush X0.here hx rfl (hb hby dj52_15_4) ?_
    show Steps _ _ _ (s₁.setTop (mkF mM 6 #[.val (.ref t), .val (.int 1)] [(.int 31), (.int ((1 : Int32) - (Int32.ofNat (2 * 1))))])) _
    refine XS.iushr X0.here hx rfl (hb hby dj52_15_6) rfl ?_
    show Steps _ _ _ (s₁.setTop (mkF mM 7 #[.val (.ref t), .val (.int 1)] [(.int ((((1 : Int32) - (Int32.ofNat (2 * 1))).toUInt32 >>> ((31 : Int32) &&& 31).toUInt32).toInt32))])) _
    refine XS.i2b X0.here hx rfl (hb hby dj52_15_7) rfl ?_
    show Steps _ _ _ (s₁.setTop (mkF mM 8 #[.val (.ref t), .val (.int 1)] [(.int (((((1 : Int32) - (Int32.ofNat (2 * 1))).toUInt32 >>> ((31 : Int32) &&& 31).toUInt32).toInt32).toInt8.toInt32))])) _
    exact retN X0 hx (t := .byte) Bd.returns (by simp) (hb hby dj52_15_8) hr
  · show Q_cfa1 Z t k vs h0 n0 _ s₁.heap _
    rw [e0]
    exact ⟨(by decide), rfl, rfl⟩
theorem ef_cfa2 (m : MethodId) (x0 : Addr) (x1 : Int32) : entryFrame m #[(.ref x0), (.int x1)] 2 = mkF m 0 #[.val (.ref x0), .val (.int x1)] [] := by first | (simp [entryFrame, mkF, argsToLocals, Value.category]; done) | rfl
def Q_cfa2 (Z : State) (t : Addr) (k : ClassId) (vs : List Value) (h0 : Heap) (n0 : Nat) (vV : Option Value) (h : Heap) (LL : List Loc) : Prop := vV = some (.int 1) ∧ LL = [] ∧ h = h0
set_option maxRecDepth 65536 in
set_option maxHeartbeats 40000000 in
theorem rm_cfa2 (l : Launch) (Z : State) (a0 : Array Value) (hw : ∀ d ∈ tables_1, d.before a0 Z = true) (ws : List Jvm.Cond) (t : Addr) (k : ClassId) (vs : List Value) (h0 : Heap) (n0 : Nat) (O0 : Old Z n0 h0) (V_t : Arv Z h0 t k .byte (Int32.ofNat (2 * 2)) vs (.int 0)) :
    MetFree l (⟨"java/lang/StringUTF16", "coderFromArrayLen", "([BI)B"⟩ : MethodName) (head1 (Jvm.Cond.code (⟨"java/lang/StringUTF16", "coderFromArrayLen", "([BI)B"⟩ : MethodName) jdk_52_method_15_code 2 (some .byte) :: ws) (⟨0, 0, 0, 0⟩ : Room)) (fun aa_ U => aa_ = #[(.ref t), (.int 2)] ∧ Z.Warmed39 U.vm ∧ U.heap = h0) (fun _ _ _ _ _ => True) (fun _ U o U' => ∃ vV LL, o = .returned vV ∧ Q_cfa2 Z t k vs h0 n0 vV U'.heap LL ∧ FrameEnd U o U' LL (⟨0, 0, 0, 0⟩ : Room).cells (⟨0, 0, 0, 0⟩ : Room).slots) := by
  refine MetFree.of_bodySF (plainFor_of_name pn_2) hisR ?_
  intro pP eE sS mM args below meth cC s₁ Bd hml0 hP hK
  obtain ⟨rfl, hZ, hh⟩ := hP
  have hx := Bd.exec
  have hby := Bd.bytes
  have hml : cC.maxLocals = 2 := hml0
  have hown : sS.vm.findClass "java/lang/StringUTF16" = some mM.cls := findClass_of_methodNamed Bd.named
  have hnm := (name_of_methodNamed Bd.named Bd.method).1
  have X0 : Stand pP l eE (⟨0, 0, 0, 0⟩ : Room) sS mM #[(.ref t), (.int 2)] below meth cC s₁ [] 0 0 := Stand.of_body Bd
  have e0 : s₁.heap = h0 := by rw [← hh, Bd.state]; rfl
  have N0 := Fr.nil n0
  have pre0 : ∀ tg, Steps pP.tables eE below (s₁.setTop (mkF mM 0 #[.val (.ref t), .val (.int 2)] [])) tg → Steps pP.tables eE below (s₁.setTop (entryFrame mM #[(.ref t), (.int 2)] 2)) tg := fun tg kg => castTop (ef_cfa2 mM t (2 : Int32)) kg
  obtain ⟨cl1, Ar1, -, S1, Nn1, -, -⟩ := id V_t
  obtain ⟨fs, hr, hrun, hended, hW, hsame⟩ := X0.leave (v := some (.int (nar .byte (((((2 : Int32) - (Int32.ofNat (2 * 2))).toUInt32 >>> ((31 : Int32) &&& 31).toUInt32).toInt32).toInt8.toInt32)))) (fun h => by rw [Bd.returns] at h; cases h)
  refine ⟨_, _, pre0 _ ?_, hrun, hended, _, _, rfl, ?_, ⟨_, rfl⟩, hW, hsame.mono (by decide) (by decide)⟩
  · refine XS.iloadN X0.here hx rfl (hb hby dj52_15_0) rfl ?_
    show Steps _ _ _ (s₁.setTop (mkF mM 1 #[.val (.ref t), .val (.int 2)] [(.int 2)])) _
    refine XS.aloadN X0.here hx rfl (hb hby dj52_15_1) rfl rfl ?_
    show Steps _ _ _ (s₁.setTop (mkF mM 2 #[.val (.ref t), .val (.int 2)] [(.ref t), (.int 2)])) _
    refine X0.arraylength hx (by rw [e0]; exact Ar1.1) (State.isArrayOf_alike hZ.alike Ar1.2.1) (g := (mkF mM 2 #[.val (.ref t), .val (.int 2)] [(.ref t), (.int 2)])) rfl rfl (hb hby dj52_15_2) _ ?_
    rw [len_of S1 Nn1]
    show Steps _ _ _ (s₁.setTop (mkF mM 3 #[.val (.ref t), .val (.int 2)] [(.int (Int32.ofNat (2 * 2))), (.int 2)])) _
    refine XS.isub X0.here hx rfl (hb hby dj52_15_3) rfl ?_
    show Steps _ _ _ (s₁.setTop (mkF mM 4 #[.val (.ref t), .val (.int 2)] [(.int ((2 : Int32) - (Int32.ofNat (2 * 2))))])) _
    refine XS.bipush X0.here hx rfl (hb hby dj52_15_4) ?_
    show Steps _ _ _ (s₁.setTop (mkF mM 6 #[.val (.ref t), .val (.int 2)] [(.int 31), (.int ((2 : Int32) - (Int32.ofNat (2 * 2))))])) _
    refine XS.iushr X0.here hx rfl (hb hby dj52_15_6) rfl ?_
    show Steps _ _ _ (s₁.setTop (mkF mM 7 #[.val (.ref t), .val (.int 2)] [(.int ((((2 : Int32) - (Int32.ofNat (2 * 2))).toUInt32 >>> ((31 : Int32) &&& 31).toUInt32).toInt32))])) _
    refine XS.i2b X0.here hx rfl (hb hby dj52_15_7) rfl ?_
    show Steps _ _ _ (s₁.setTop (mkF mM 8 #[.val (.ref t), .val (.int 2)] [(.int (((((2 : Int32) - (Int32.ofNat (2 * 2))).toUInt32 >>> ((31 : Int32) &&& 31).toUInt32).toInt32).toInt8.toInt32))])) _
    exact retN X0 hx (t := .byte) Bd.returns (by simp) (hb hby dj52_15_8) hr
  · show Q_cfa2 Z t k vs h0 n0 _ s₁.heap _
    rw [e0]
    exact ⟨(by decide), rfl, rfl⟩
theorem ef_cfa3 (m : MethodId) (x0 : Addr) (x1 : Int32) : entryFrame m #[(.ref x0), (.int x1)] 2 = mkF m 0 #[.val (.ref x0), .val (.int x1)] [] := by first | (simp [entryFrame, mkF, argsToLocals, Value.category]; done) | rfl
def Q_cfa3 (Z : State) (t : Addr) (k : ClassId) (vs : List Value) (h0 : Heap) (n0 : Nat) (vV : Option Value) (h : Heap) (LL : List Loc) : Prop := vV = some (.int 1) ∧ LL = [] ∧ h = h0
set_option maxRecDepth 65536 in
set_option maxHeartbeats 40000000 in
theorem rm_cfa3 (l : Launch) (Z : State) (a0 : Array Value) (hw : ∀ d ∈ tables_1, d.before a0 Z = true) (ws : List Jvm.Cond) (t : Addr) (k : ClassId) (vs : List Value) (h0 : Heap) (n0 : Nat) (O0 : Old Z n0 h0) (V_t : Arv Z h0 t k .byte (Int32.ofNat (2 * 3)) vs (.int 0)) :
    MetFree l (⟨"java/lang/StringUTF16", "coderFromArrayLen", "([BI)B"⟩ : MethodName) (head1 (Jvm.Cond.code (⟨"java/lang/StringUTF16", "coderFromArrayLen", "([BI)B"⟩ : MethodName) jdk_52_method_15_code 2 (some .byte) :: ws) (⟨0, 0, 0, 0⟩ : Room)) (fun aa_ U => aa_ = #[(.ref t), (.int 3)] ∧ Z.Warmed39 U.vm ∧ U.heap = h0) (fun _ _ _ _ _ => True) (fun _ U o U' => ∃ vV LL, o = .returned vV ∧ Q_cfa3 Z t k vs h0 n0 vV U'.heap LL ∧ FrameEnd U o U' LL (⟨0, 0, 0, 0⟩ : Room).cells (⟨0, 0, 0, 0⟩ : Room).slots) := by
  refine MetFree.of_bodySF (plainFor_of_name pn_2) hisR ?_
  intro pP eE sS mM args below meth cC s₁ Bd hml0 hP hK
  obtain ⟨rfl, hZ, hh⟩ := hP
  have hx := Bd.exec
  have hby := Bd.bytes
  have hml : cC.maxLocals = 2 := hml0
  have hown : sS.vm.findClass "java/lang/StringUTF16" = some mM.cls := findClass_of_methodNamed Bd.named
  have hnm := (name_of_methodNamed Bd.named Bd.method).1
  have X0 : Stand pP l eE (⟨0, 0, 0, 0⟩ : Room) sS mM #[(.ref t), (.int 3)] below meth cC s₁ [] 0 0 := Stand.of_body Bd
  have e0 : s₁.heap = h0 := by rw [← hh, Bd.state]; rfl
  have N0 := Fr.nil n0
  have pre0 : ∀ tg, Steps pP.tables eE below (s₁.setTop (mkF mM 0 #[.val (.ref t), .val (.int 3)] [])) tg → Steps pP.tables eE below (s₁.setTop (entryFrame mM #[(.ref t), (.int 3)] 2)) tg := fun tg kg => castTop (ef_cfa3 mM t (3 : Int32)) kg
  obtain ⟨cl1, Ar1, -, S1, Nn1, -, -⟩ := id V_t
  obtain ⟨fs, hr, hrun, hended, hW, hsame⟩ := X0.leave (v := some (.int (nar .byte (((((3 : Int32) - (Int32.ofNat (2 * 3))).toUInt32 >>> ((31 : Int32) &&& 31).toUInt32).toInt32).toInt8.toInt32)))) (fun h => by rw [Bd.returns] at h; cases h)
  refine ⟨_, _, pre0 _ ?_, hrun, hended, _, _, rfl, ?_, ⟨_, rfl⟩, hW, hsame.mono (by decide) (by decide)⟩
  · refine XS.iloadN X0.here hx rfl (hb hby dj52_15_0) rfl ?_
    show Steps _ _ _ (s₁.setTop (mkF mM 1 #[.val (.ref t), .val (.int 3)] [(.int 3)])) _
    refine XS.aloadN X0.here hx rfl (hb hby dj52_15_1) rfl rfl ?_
    show Steps _ _ _ (s₁.setTop (mkF mM 2 #[.val (.ref t), .val (.int 3)] [(.ref t), (.int 3)])) _
    refine X0.arraylength hx (by rw [e0]; exact Ar1.1) (State.isArrayOf_alike hZ.alike Ar1.2.1) (g := (mkF mM 2 #[.val (.ref t), .val (.int 3)] [(.ref t), (.int 3)])) rfl rfl (hb hby dj52_15_2) _ ?_
    rw [len_of S1 Nn1]
    show Steps _ _ _ (s₁.setTop (mkF mM 3 #[.val (.ref t), .val (.int 3)] [(.int (Int32.ofNat (2 * 3))), (.int 3)])) _
    refine XS.isub X0.here hx rfl (hb hby dj52_15_3) rfl ?_
    show Steps _ _ _ (s₁.setTop (mkF mM 4 #[.val (.ref t), .val (.int 3)] [(.int ((3 : Int32) - (Int32.ofNat (2 * 3))))])) _
    refine XS.bipush X0.here hx rfl (hb hby dj52_15_4) ?_
    show Steps _ _ _ (s₁.setTop (mkF mM 6 #[.val (.ref t), .val (.int 3)] [(.int 31), (.int ((3 : Int32) - (Int32.ofNat (2 * 3))))])) _
    refine XS.iushr X0.here hx rfl (hb hby dj52_15_6) rfl ?_
    show Steps _ _ _ (s₁.setTop (mkF mM 7 #[.val (.ref t), .val (.int 3)] [(.int ((((3 : Int32) - (Int32.ofNat (2 * 3))).toUInt32 >>> ((31 : Int32) &&& 31).toUInt32).toInt32))])) _
    refine XS.i2b X0.here hx rfl (hb hby dj52_15_7) rfl ?_
    show Steps _ _ _ (s₁.setTop (mkF mM 8 #[.val (.ref t), .val (.int 3)] [(.int (((((3 : Int32) - (Int32.ofNat (2 * 3))).toUInt32 >>> ((31 : Int32) &&& 31).toUInt32).toInt32).toInt8.toInt32))])) _
    exact retN X0 hx (t := .byte) Bd.returns (by simp) (hb hby dj52_15_8) hr
  · show Q_cfa3 Z t k vs h0 n0 _ s₁.heap _
    rw [e0]
    exact ⟨(by decide), rfl, rfl⟩
theorem ef_cfa4 (m : MethodId) (x0 : Addr) (x1 : Int32) : entryFrame m #[(.ref x0), (.int x1)] 2 = mkF m 0 #[.val (.ref x0), .val (.int x1)] [] := by first | (simp [entryFrame, mkF, argsToLocals, Value.category]; done) | rfl
def Q_cfa4 (Z : State) (t : Addr) (k : ClassId) (vs : List Value) (h0 : Heap) (n0 : Nat) (vV : Option Value) (h : Heap) (LL : List Loc) : Prop := vV = some (.int 1) ∧ LL = [] ∧ h = h0
set_option maxRecDepth 65536 in
set_option maxHeartbeats 40000000 in
theorem rm_cfa4 (l : Launch) (Z : State) (a0 : Array Value) (hw : ∀ d ∈ tables_1, d.before a0 Z = true) (ws : List Jvm.Cond) (t : Addr) (k : ClassId) (vs : List Value) (h0 : Heap) (n0 : Nat) (O0 : Old Z n0 h0) (V_t : Arv Z h0 t k .byte (Int32.ofNat (2 * 4)) vs (.int 0)) :
    MetFree l (⟨"java/lang/StringUTF16", "coderFromArrayLen", "([BI)B"⟩ : MethodName) (head1 (Jvm.Cond.code (⟨"java/lang/StringUTF16", "coderFromArrayLen", "([BI)B"⟩ : MethodName) jdk_52_method_15_code 2 (some .byte) :: ws) (⟨0, 0, 0, 0⟩ : Room)) (fun aa_ U => aa_ = #[(.ref t), (.int 4)] ∧ Z.Warmed39 U.vm ∧ U.heap = h0) (fun _ _ _ _ _ => True) (fun _ U o U' => ∃ vV LL, o = .returned vV ∧ Q_cfa4 Z t k vs h0 n0 vV U'.heap LL ∧ FrameEnd U o U' LL (⟨0, 0, 0, 0⟩ : Room).cells (⟨0, 0, 0, 0⟩ : Room).slots) := by
  refine MetFree.of_bodySF (plainFor_of_name pn_2) hisR ?_
  intro pP eE sS mM args below meth cC s₁ Bd hml0 hP hK
  obtain ⟨rfl, hZ, hh⟩ := hP
  have hx := Bd.exec
  have hby := Bd.bytes
  have hml : cC.maxLocals = 2 := hml0
  have hown : sS.vm.findClass "java/lang/StringUTF16" = some mM.cls := findClass_of_methodNamed Bd.named
  have hnm := (name_of_methodNamed Bd.named Bd.method).1
  have X0 : Stand pP l eE (⟨0, 0, 0, 0⟩ : Room) sS mM #[(.ref t), (.int 4)] below meth cC s₁ [] 0 0 := Stand.of_body Bd
  have e0 : s₁.heap = h0 := by rw [← hh, Bd.state]; rfl
  have N0 := Fr.nil n0
  have pre0 : ∀ tg, Steps pP.tables eE below (s₁.setTop (mkF mM 0 #[.val (.ref t), .val (.int 4)] [])) tg → Steps pP.tables eE below (s₁.setTop (entryFrame mM #[(.ref t), (.int 4)] 2)) tg := fun tg kg => castTop (ef_cfa4 mM t (4 : Int32)) kg
  obtain ⟨cl1, Ar1, -, S1, Nn1, -, -⟩ := id V_t
  obtain ⟨fs, hr, hrun, hended, hW, hsame⟩ := X0.leave (v := some (.int (nar .byte (((((4 : Int32) - (Int32.ofNat (2 * 4))).toUInt32 >>> ((31 : Int32) &&& 31).toUInt32).toInt32).toInt8.toInt32)))) (fun h => by rw [Bd.returns] at h; cases h)
  refine ⟨_, _, pre0 _ ?_, hrun, hended, _, _, rfl, ?_, ⟨_, rfl⟩, hW, hsame.mono (by decide) (by decide)⟩
  · refine XS.iloadN X0.here hx rfl (hb hby dj52_15_0) rfl ?_
    show Steps _ _ _ (s₁.setTop (mkF mM 1 #[.val (.ref t), .val (.int 4)] [(.int 4)])) _
    refine XS.aloadN X0.here hx rfl (hb hby dj52_15_1) rfl rfl ?_
    show Steps _ _ _ (s₁.setTop (mkF mM 2 #[.val (.ref t), .val (.int 4)] [(.ref t), (.int 4)])) _
    refine X0.arraylength hx (by rw [e0]; exact Ar1.1) (State.isArrayOf_alike hZ.alike Ar1.2.1) (g := (mkF mM 2 #[.val (.ref t), .val (.int 4)] [(.ref t), (.int 4)])) rfl rfl (hb hby dj52_15_2) _ ?_
    rw [len_of S1 Nn1]
    show Steps _ _ _ (s₁.setTop (mkF mM 3 #[.val (.ref t), .val (.int 4)] [(.int (Int32.ofNat (2 * 4))), (.int 4)])) _
    refine XS.isub X0.here hx rfl (hb hby dj52_15_3) rfl ?_
    show Steps _ _ _ (s₁.setTop (mkF mM 4 #[.val (.ref t), .val (.int 4)] [(.int ((4 : Int32) - (Int32.ofNat (2 * 4))))])) _
    refine XS.bipush X0.here hx rfl (hb hby dj52_15_4) ?_
    show Steps _ _ _ (s₁.setTop (mkF mM 6 #[.val (.ref t), .val (.int 4)] [(.int 31), (.int ((4 : Int32) - (Int32.ofNat (2 * 4))))])) _
    refine XS.iushr X0.here hx rfl (hb hby dj52_15_6) rfl ?_
    show Steps _ _ _ (s₁.setTop (mkF mM 7 #[.val (.ref t), .val (.int 4)] [(.int ((((4 : Int32) - (Int32.ofNat (2 * 4))).toUInt32 >>> ((31 : Int32) &&& 31).toUInt32).toInt32))])) _
    refine XS.i2b X0.here hx rfl (hb hby dj52_15_7) rfl ?_
    show Steps _ _ _ (s₁.setTop (mkF mM 8 #[.val (.ref t), .val (.int 4)] [(.int (((((4 : Int32) - (Int32.ofNat (2 * 4))).toUInt32 >>> ((31 : Int32) &&& 31).toUInt32).toInt32).toInt8.toInt32))])) _
    exact retN X0 hx (t := .byte) Bd.returns (by simp) (hb hby dj52_15_8) hr
  · show Q_cfa4 Z t k vs h0 n0 _ s₁.heap _
    rw [e0]
    exact ⟨(by decide), rfl, rfl⟩
theorem ef_in41 (m : MethodId) (x0 : Addr) (x1 : Addr) (x2 : Int32) (x3 : Int32) : entryFrame m #[(.ref x0), (.ref x1), (.int x2), (.int x3), .null] 6 = mkF m 0 #[.val (.ref x0), .val (.ref x1), .val (.int x2), .val (.int x3), .val .null, .unset] [] := by first | (simp [entryFrame, mkF, argsToLocals, Value.category]; done) | rfl
def Q_in41 (Z : State) (x : Addr) (b : Addr) (kb : ClassId) (u1 : Value) (u2 : Value) (c0 : Int32) (zc : Int32) (h0 : Heap) (n0 : Nat) (vV : Option Value) (h : Heap) (LL : List Loc) : Prop := ∃ (t : Addr) (k : ClassId), vV = none ∧ Fr n0 LL ∧ Keep h0 h [x] ∧ Exa Z h x "java/lang/String" ∧ Fld Z h x "java/lang/String" "value" "[B" (.ref t) ∧ Fld Z h x "java/lang/String" "coder" "B" (.int 1) ∧ h0.size ≤ t ∧ Arv Z h t k .byte (Int32.ofNat (2 * 1)) (own_u16 [c0]) (.int 0)
set_option maxRecDepth 65536 in
set_option maxHeartbeats 40000000 in
theorem rm_in41 (l : Launch) (Z : State) (a0 : Array Value) (hw : ∀ d ∈ tables_1, d.before a0 Z = true) (ws : List Jvm.Cond) (x : Addr) (b : Addr) (kb : ClassId) (u1 : Value) (u2 : Value) (c0 : Int32) (zc : Int32) (h0 : Heap) (n0 : Nat) (O0 : Old Z n0 h0) (E_x : Exa Z h0 x "java/lang/String") (F_x_value : Fld Z h0 x "java/lang/String" "value" "[B" u1) (F_x_coder : Fld Z h0 x "java/lang/String" "coder" "B" u2) (g_x : n0 ≤ x) (V_b : Arv Z h0 b kb .char (1 : Int32) [(.int c0)] (.int 0)) (hp5 : ((own_fi ([c0] : List Int32)) < 1)) (hp6 : (∀ c ∈ ([c0] : List Int32), ¬ c < 0 ∧ ¬ (65535 : Int32) < c)) (S__assertionsDisabled : Sta Z Z.heap "java/lang/StringUTF16" "$assertionsDisabled" "Z" (.int 1)) (S_HI_BYTE_SHIFT : Sta Z Z.heap "java/lang/StringUTF16" "HI_BYTE_SHIFT" "I" (.int 0)) (S_LO_BYTE_SHIFT : Sta Z Z.heap "java/lang/StringUTF16" "LO_BYTE_SHIFT" "I" (.int 8)) (S_COMPACT_STRINGS : Sta Z Z.heap "java/lang/String" "COMPACT_STRINGS" "Z" (.int zc)) (hp11 : (¬ (zc = (0 : Int32)))) :
    MetFree l (⟨"java/lang/String", "<init>", "([CIILjava/lang/Void;)V"⟩ : MethodName) (head1 (Jvm.Cond.code (⟨"java/lang/String", "<init>", "([CIILjava/lang/Void;)V"⟩ : MethodName) jdk_42_method_149_code 6 none :: ws) (⟨4, 2, 9, 57⟩ : Room)) (fun aa_ U => aa_ = #[(.ref x), (.ref b), (.int 0), (.int 1), .null] ∧ Z.Warmed39 U.vm ∧ U.heap = h0) (fun _ _ _ _ _ => True) (fun _ U o U' => ∃ vV LL, o = .returned vV ∧ Q_in41 Z x b kb u1 u2 c0 zc h0 n0 vV U'.heap LL ∧ FrameEnd U o U' LL (⟨4, 2, 9, 57⟩ : Room).cells (⟨4, 2, 9, 57⟩ : Room).slots) := by
  refine MetFree.of_bodySF (plainFor_of_name pn_1) hisR ?_
  intro pP eE sS mM args below meth cC s₁ Bd hml0 hP hK
  obtain ⟨rfl, hZ, hh⟩ := hP
  have hx := Bd.exec
  have hby := Bd.bytes
  have hml : cC.maxLocals = 6 := hml0
  have hown : sS.vm.findClass "java/lang/String" = some mM.cls := findClass_of_methodNamed Bd.named
  have hnm := (name_of_methodNamed Bd.named Bd.method).1
  have X0 : Stand pP l eE (⟨4, 2, 9, 57⟩ : Room) sS mM #[(.ref x), (.ref b), (.int 0), (.int 1), .null] below meth cC s₁ [] 0 0 := Stand.of_body Bd
  have e0 : s₁.heap = h0 := by rw [← hh, Bd.state]; rfl
  have N0 := Fr.nil n0
  have pre0 : ∀ tg, Steps pP.tables eE below (s₁.setTop (mkF mM 0 #[.val (.ref x), .val (.ref b), .val (.int 0), .val (.int 1), .val .null, .unset] [])) tg → Steps pP.tables eE below (s₁.setTop (entryFrame mM #[(.ref x), (.ref b), (.int 0), (.int 1), .null] 6)) tg := fun tg kg => castTop (ef_in41 mM x b (0 : Int32) (1 : Int32)) kg
  have K0 : Keep h0 h0 [x] := Keep.refl _ _
  obtain ⟨T1, X1, e1, st1⟩ := initO X0 hx hZ hown (w_17 hw) (w_18 hw) (w_19 hw) e0 (g := (mkF mM 1 #[.val (.ref x), .val (.ref b), .val (.int 0), .val (.int 1), .val .null, .unset] [(.ref x)])) rfl (by rw [hml]; rfl) rfl (hb hby dj42_149_1) (by decide) (W := 0) (by show 2 * 0 + _ ≤ _; exact Nat.le_of_eq rfl) (by decide)
  obtain ⟨T2, X2, e2, st2⟩ := getS2 X1 hx hZ hown (host := "") (Or.inl (w_47 hw)) Via.refl e1 (Sta.ext (O0).2 S_COMPACT_STRINGS) (g := (mkF mM 27 #[.val (.ref x), .val (.ref b), .val (.int 0), .val (.int 1), .val .null, .unset] [])) rfl (hb hby dj42_149_27)
  obtain ⟨_, _, ⟨T3, L3, k3, n3⟩, -, X3, ⟨Lc3, hQ3, l3, y3, z3⟩, st3⟩ := Jvm.LawKit.callS X2 hx (y := (⟨"java/lang/StringUTF16", "compress", "([CII)[B"⟩ : MethodName)) hown (mvT hZ (w_72 hw)) (mvT hZ (w_73 hw)) (mvT hZ (w_74 hw)) (mvT hZ (w_75 hw)) (by decide) (backOf (W := 0) (rm_cp1 l Z a0 hw [] b kb c0 h0 n0 O0 V_b (hp5 : (own_fi ([c0] : List Int32)) < 1) (hp6 : ∀ c ∈ ([c0] : List Int32), ¬ c < 0 ∧ ¬ (65535 : Int32) < c) S__assertionsDisabled S_HI_BYTE_SHIFT S_LO_BYTE_SHIFT) hZ (w_75 hw) (w_74 hw) (by decide) (by decide)) (g := (mkF mM 36 #[.val (.ref x), .val (.ref b), .val (.int 0), .val (.int 1), .val .null, .unset] [(.int 1), (.int 0), (.ref b)])) rfl (by rw [hml]; rfl) (argsL := [(.ref b), (.int 0), (.int 1)]) (rest := []) (lenOf pd_14 rfl) rfl (by show 2 * 0 + _ ≤ _; exact Nat.le_of_eq rfl) (hb hby dj42_149_36) (fun _ _ => ⟨rfl, e2, (by decide : 0 + 2 ≤ _), (by decide : 0 + 9 ≤ _)⟩)
  dsimp only [Pt.U, Pt.locs, Pt.cells, Pt.slots] at X3 l3 y3 z3 st3 hQ3
  subst l3 y3 z3
  obtain ⟨a_3, ka_3, rfl, Nq3, Kq3, q3_0, q3_1⟩ := hQ3
  have N3 := Fr.app N0 Nq3
  have g_a_3 : n0 ≤ a_3 := Nat.le_trans (own_osz O0) q3_0
  have sz_a_3 : h0.size ≤ a_3 := Nat.le_trans K0.1 q3_0
  have K4 : Keep h0 T3.heap [x] := K0.trans Kq3 all0
  have f5 := (O0.keep Kq3 all0)
  obtain ⟨_, _, ⟨T6, L6, k6, n6⟩, -, X6, ⟨Lc6, hQ6, l6, y6, z6⟩, st6⟩ := Jvm.LawKit.callS X3 hx (y := (⟨"java/lang/StringUTF16", "coderFromArrayLen", "([BI)B"⟩ : MethodName)) hown (mvT hZ (w_79 hw)) (mvT hZ (w_80 hw)) (mvT hZ (w_74 hw)) (mvT hZ (w_81 hw)) (by decide) (backOf (W := 1) (rm_cfa1 l Z a0 hw [] a_3 ka_3 (own_u16 [c0]) T3.heap n0 f5 q3_1) hZ (w_81 hw) (w_74 hw) (by decide) (by decide)) (g := (mkF mM 45 #[.val (.ref x), .val (.ref b), .val (.int 0), .val (.int 1), .val .null, .val (.ref a_3)] [(.int 1), (.ref a_3), (.ref x)])) rfl (by rw [hml]; rfl) (argsL := [(.ref a_3), (.int 1)]) (rest := [(.ref x)]) (lenOf pd_15 rfl) rfl (by show 2 * 0 + _ ≤ _; exact Nat.le_of_eq rfl) (hb hby dj42_149_45) (fun _ _ => ⟨rfl, rfl, (by decide : 2 + 0 ≤ _), (by decide : 9 + 0 ≤ _)⟩)
  dsimp only [Pt.U, Pt.locs, Pt.cells, Pt.slots] at X6 l6 y6 z6 st6 hQ6
  subst l6 y6 z6
  obtain ⟨rfl, rfl, Kq6⟩ := hQ6
  try rw [List.append_nil] at X6
  have f7 := (F_x_coder.keep Kq3 nin0)
  have f8 := (E_x.keep Kq3)
  obtain ⟨T9, h9, X9, e9, W9, st9⟩ := putFN X6 hx hZ hown (w_27 hw) Via.refl Kq6 f7 f8 (Or.inr ⟨(w_23 hw), rfl, hnm⟩) (w_8 hw) (ty := .byte) (v' := (.int (nar .byte (1 : Int32)))) (by decide) rfl (fits_nar_byte _) (g := (mkF mM 48 #[.val (.ref x), .val (.ref b), .val (.int 0), .val (.int 1), .val .null, .val (.ref a_3)] [(.int 1), (.ref x)])) rfl rfl (hb hby dj42_149_48)
  have K10 : Keep h0 h9 [x] := K4.wr W9 (Or.inl (List.mem_of_getElem? (i := 0) rfl))
  have Fw9 : Fld Z h9 x "java/lang/String" "coder" "B" (.int 1) := f7.same W9
  have N9 := Fr.snoc X9 N3 g_x
  have f11 := ((F_x_value.keep Kq3 nin0).other W9 (Or.inr (slot_ne (Or.inr (w_22 hw)) (Or.inr (w_23 hw)) (by decide) (t := (.array .byte)) (t' := .byte) (by decide) (by decide))))
  have f12 := (f8.wr W9)
  obtain ⟨T13, h13, X13, e13, W13, st13⟩ := putF X9 hx hZ hown (host := "") (Or.inl (w_26 hw)) Via.refl e9 f11 f12 (Or.inr ⟨(w_22 hw), rfl, hnm⟩) (w_8 hw) (ty := (.array .byte)) (by decide) rfl rfl (g := (mkF mM 54 #[.val (.ref x), .val (.ref b), .val (.int 0), .val (.int 1), .val .null, .val (.ref a_3)] [(.ref a_3), (.ref x)])) rfl rfl (hb hby dj42_149_54)
  have K14 : Keep h0 h13 [x] := K10.wr W13 (Or.inl (List.mem_of_getElem? (i := 0) rfl))
  have Fw13 : Fld Z h13 x "java/lang/String" "value" "[B" (.ref a_3) := f11.same W13
  have N13 := Fr.snoc X13 N9 g_x
  have f16 := (f12.wr W13)
  have f17 := (Fw9.other W13 (Or.inr (slot_ne (Or.inr (w_23 hw)) (Or.inr (w_22 hw)) (by decide) (t := .byte) (t' := (.array .byte)) (by decide) (by decide))))
  have f18 := ((q3_1.other W9 (Ne.symm (Nat.ne_of_lt (Nat.lt_of_lt_of_le (E_x).lt q3_0)))).other W13 (Ne.symm (Nat.ne_of_lt (Nat.lt_of_lt_of_le (E_x).lt q3_0))))
  obtain ⟨fs, hr, hrun, hended, hW, hsame⟩ := X13.leave (v := none) (fun _ => rfl)
  refine ⟨_, _, pre0 _ ?_, hrun, hended, _, _, rfl, ?_, ⟨_, rfl⟩, hW, hsame.mono (by decide) (by decide)⟩
  · refine XS.aloadN X0.here hx rfl (hb hby dj42_149_0) rfl rfl ?_
    show Steps _ _ _ (s₁.setTop (mkF mM 1 #[.val (.ref x), .val (.ref b), .val (.int 0), .val (.int 1), .val .null, .unset] [(.ref x)])) _
    refine st1 _ ?_
    show Steps _ _ _ (T1.setTop (mkF mM 4 #[.val (.ref x), .val (.ref b), .val (.int 0), .val (.int 1), .val .null, .unset] [])) _
    refine XS.iloadN X1.here hx rfl (hb hby dj42_149_4) rfl ?_
    show Steps _ _ _ (T1.setTop (mkF mM 5 #[.val (.ref x), .val (.ref b), .val (.int 0), .val (.int 1), .val .null, .unset] [(.int 1)])) _
    refine XS.ifYes X1.here hx rfl (pc0 := 5) (pc' := 27) rfl (hb hby dj42_149_5) rfl ((if0 _ _).trans (feq (by decide : ¬ ((1 : Int32) = (0 : Int32)))).2) (by decide) (by decide) ?_
    show Steps _ _ _ (T1.setTop (mkF mM 27 #[.val (.ref x), .val (.ref b), .val (.int 0), .val (.int 1), .val .null, .unset] [])) _
    refine st2 _ ?_
    show Steps _ _ _ (T2.setTop (mkF mM 30 #[.val (.ref x), .val (.ref b), .val (.int 0), .val (.int 1), .val .null, .unset] [(.int zc)])) _
    refine XS.ifNo X2.here hx rfl (hb hby dj42_149_30) rfl ((if0 _ _).trans (feq hp11).1) ?_
    show Steps _ _ _ (T2.setTop (mkF mM 33 #[.val (.ref x), .val (.ref b), .val (.int 0), .val (.int 1), .val .null, .unset] [])) _
    refine XS.aloadN X2.here hx rfl (hb hby dj42_149_33) rfl rfl ?_
    show Steps _ _ _ (T2.setTop (mkF mM 34 #[.val (.ref x), .val (.ref b), .val (.int 0), .val (.int 1), .val .null, .unset] [(.ref b)])) _
    refine XS.iloadN X2.here hx rfl (hb hby dj42_149_34) rfl ?_
    show Steps _ _ _ (T2.setTop (mkF mM 35 #[.val (.ref x), .val (.ref b), .val (.int 0), .val (.int 1), .val .null, .unset] [(.int 0), (.ref b)])) _
    refine XS.iloadN X2.here hx rfl (hb hby dj42_149_35) rfl ?_
    show Steps _ _ _ (T2.setTop (mkF mM 36 #[.val (.ref x), .val (.ref b), .val (.int 0), .val (.int 1), .val .null, .unset] [(.int 1), (.int 0), (.ref b)])) _
    refine st3 _ ?_
    show Steps _ _ _ (T3.setTop (mkF mM 39 #[.val (.ref x), .val (.ref b), .val (.int 0), .val (.int 1), .val .null, .unset] [(.ref a_3)])) _
    refine XS.astore X3.here hx rfl (hb hby dj42_149_39) rfl rfl (l' := #[.val (.ref x), .val (.ref b), .val (.int 0), .val (.int 1), .val .null, .val (.ref a_3)]) rfl ?_
    show Steps _ _ _ (T3.setTop (mkF mM 41 #[.val (.ref x), .val (.ref b), .val (.int 0), .val (.int 1), .val .null, .val (.ref a_3)] [])) _
    refine XS.aloadN X3.here hx rfl (hb hby dj42_149_41) rfl rfl ?_
    show Steps _ _ _ (T3.setTop (mkF mM 42 #[.val (.ref x), .val (.ref b), .val (.int 0), .val (.int 1), .val .null, .val (.ref a_3)] [(.ref x)])) _
    refine XS.aload X3.here hx rfl (hb hby dj42_149_42) rfl rfl ?_
    show Steps _ _ _ (T3.setTop (mkF mM 44 #[.val (.ref x), .val (.ref b), .val (.int 0), .val (.int 1), .val .null, .val (.ref a_3)] [(.ref a_3), (.ref x)])) _
    refine XS.iloadN X3.here hx rfl (hb hby dj42_149_44) rfl ?_
    show Steps _ _ _ (T3.setTop (mkF mM 45 #[.val (.ref x), .val (.ref b), .val (.int 0), .val (.int 1), .val .null, .val (.ref a_3)] [(.int 1), (.ref a_3), (.ref x)])) _
    refine st6 _ ?_
    show Steps _ _ _ (T6.setTop (mkF mM 48 #[.val (.ref x), .val (.ref b), .val (.int 0), .val (.int 1), .val .null, .val (.ref a_3)] [(.int 1), (.ref x)])) _
    refine st9 _ ?_
    show Steps _ _ _ (T9.setTop (mkF mM 51 #[.val (.ref x), .val (.ref b), .val (.int 0), .val (.int 1), .val .null, .val (.ref a_3)] [])) _
    refine XS.aloadN X9.here hx rfl (hb hby dj42_149_51) rfl rfl ?_
    show Steps _ _ _ (T9.setTop (mkF mM 52 #[.val (.ref x), .val (.ref b), .val (.int 0), .val (.int 1), .val .null, .val (.ref a_3)] [(.ref x)])) _
    refine XS.aload X9.here hx rfl (hb hby dj42_149_52) rfl rfl ?_
    show Steps _ _ _ (T9.setTop (mkF mM 54 #[.val (.ref x), .val (.ref b), .val (.int 0), .val (.int 1), .val .null, .val (.ref a_3)] [(.ref a_3), (.ref x)])) _
    refine st13 _ ?_
    show Steps _ _ _ (T13.setTop (mkF mM 57 #[.val (.ref x), .val (.ref b), .val (.int 0), .val (.int 1), .val .null, .val (.ref a_3)] [])) _
    exact X13.returnOut hx Bd.returns (hb hby dj42_149_57) hr
  · show Q_in41 Z x b kb u1 u2 c0 zc h0 n0 _ T13.heap _
    rw [e13]
    exact ⟨a_3, ka_3, rfl, N13, K14, f16, Fw13, f17, sz_a_3, f18⟩
theorem ef_in11 (m : MethodId) (x0 : Addr) (x1 : Addr) : entryFrame m #[(.ref x0), (.ref x1)] 2 = mkF m 0 #[.val (.ref x0), .val (.ref x1)] [] := by first | (simp [entryFrame, mkF, argsToLocals, Value.category]; done) | rfl
def Q_in11 (Z : State) (x : Addr) (b : Addr) (kb : ClassId) (u1 : Value) (u2 : Value) (c0 : Int32) (zc : Int32) (h0 : Heap) (n0 : Nat) (vV : Option Value) (h : Heap) (LL : List Loc) : Prop := ∃ (t : Addr) (k : ClassId), vV = none ∧ Fr n0 LL ∧ Keep h0 h [x] ∧ Exa Z h x "java/lang/String" ∧ Fld Z h x "java/lang/String" "value" "[B" (.ref t) ∧ Fld Z h x "java/lang/String" "coder" "B" (.int 1) ∧ h0.size ≤ t ∧ Arv Z h t k .byte (Int32.ofNat (2 * 1)) (own_u16 [c0]) (.int 0)
set_option maxRecDepth 65536 in
set_option maxHeartbeats 40000000 in
theorem rm_in11 (l : Launch) (Z : State) (a0 : Array Value) (hw : ∀ d ∈ tables_1, d.before a0 Z = true) (ws : List Jvm.Cond) (x : Addr) (b : Addr) (kb : ClassId) (u1 : Value) (u2 : Value) (c0 : Int32) (zc : Int32) (h0 : Heap) (n0 : Nat) (O0 : Old Z n0 h0) (E_x : Exa Z h0 x "java/lang/String") (F_x_value : Fld Z h0 x "java/lang/String" "value" "[B" u1) (F_x_coder : Fld Z h0 x "java/lang/String" "coder" "B" u2) (g_x : n0 ≤ x) (V_b : Arv Z h0 b kb .char (1 : Int32) [(.int c0)] (.int 0)) (hp5 : ((own_fi ([c0] : List Int32)) < 1)) (hp6 : (∀ c ∈ ([c0] : List Int32), ¬ c < 0 ∧ ¬ (65535 : Int32) < c)) (S__assertionsDisabled : Sta Z Z.heap "java/lang/StringUTF16" "$assertionsDisabled" "Z" (.int 1)) (S_HI_BYTE_SHIFT : Sta Z Z.heap "java/lang/StringUTF16" "HI_BYTE_SHIFT" "I" (.int 0)) (S_LO_BYTE_SHIFT : Sta Z Z.heap "java/lang/StringUTF16" "LO_BYTE_SHIFT" "I" (.int 8)) (S_COMPACT_STRINGS : Sta Z Z.heap "java/lang/String" "COMPACT_STRINGS" "Z" (.int zc)) (hp11 : (¬ (zc = (0 : Int32)))) :
    MetFree l (⟨"java/lang/String", "<init>", "([C)V"⟩ : MethodName) (head1 (Jvm.Cond.code (⟨"java/lang/String", "<init>", "([C)V"⟩ : MethodName) jdk_42_method_3_code 2 none :: ws) (⟨5, 2, 9, 74⟩ : Room)) (fun aa_ U => aa_ = #[(.ref x), (.ref b)] ∧ Z.Warmed39 U.vm ∧ U.heap = h0) (fun _ _ _ _ _ => True) (fun _ U o U' => ∃ vV LL, o = .returned vV ∧ Q_in11 Z x b kb u1 u2 c0 zc h0 n0 vV U'.heap LL ∧ FrameEnd U o U' LL (⟨5, 2, 9, 74⟩ : Room).cells (⟨5, 2, 9, 74⟩ : Room).slots) := by
  refine MetFree.of_bodySF (plainFor_of_name pn_1) hisR ?_
  intro pP eE sS mM args below meth cC s₁ Bd hml0 hP hK
  obtain ⟨rfl, hZ, hh⟩ := hP
  have hx := Bd.exec
  have hby := Bd.bytes
  have hml : cC.maxLocals = 2 := hml0
  have hown : sS.vm.findClass "java/lang/String" = some mM.cls := findClass_of_methodNamed Bd.named
  have hnm := (name_of_methodNamed Bd.named Bd.method).1
  have X0 : Stand pP l eE (⟨5, 2, 9, 74⟩ : Room) sS mM #[(.ref x), (.ref b)] below meth cC s₁ [] 0 0 := Stand.of_body Bd
  have e0 : s₁.heap = h0 := by rw [← hh, Bd.state]; rfl
  have N0 := Fr.nil n0
  have pre0 : ∀ tg, Steps pP.tables eE below (s₁.setTop (mkF mM 0 #[.val (.ref x), .val (.ref b)] [])) tg → Steps pP.tables eE below (s₁.setTop (entryFrame mM #[(.ref x), (.ref b)] 2)) tg := fun tg kg => castTop (ef_in11 mM x b) kg
  have K0 : Keep h0 h0 [x] := Keep.refl _ _
  obtain ⟨cl1, Ar1, -, S1, Nn1, -, -⟩ := id V_b
  obtain ⟨_, _, ⟨T2, L2, k2, n2⟩, -, X2, ⟨Lc2, hQ2, l2, y2, z2⟩, st2⟩ := X0.specialBack hx (y := (⟨"java/lang/String", "<init>", "([CIILjava/lang/Void;)V"⟩ : MethodName)) rfl hown (mvT hZ (w_13 hw)) (mvT hZ (w_14 hw)) (mvT hZ (w_16 hw)) (by decide) (backOf (W := 0) (rm_in41 l Z a0 hw [] x b kb u1 u2 c0 zc h0 n0 O0 E_x F_x_value F_x_coder g_x V_b (hp5 : (own_fi ([c0] : List Int32)) < 1) (hp6 : ∀ c ∈ ([c0] : List Int32), ¬ c < 0 ∧ ¬ (65535 : Int32) < c) S__assertionsDisabled S_HI_BYTE_SHIFT S_LO_BYTE_SHIFT S_COMPACT_STRINGS hp11) hZ (w_16 hw) (w_9 hw) (by decide) (by decide)) (g := (mkF mM 6 #[.val (.ref x), .val (.ref b)] [.null, (.int 1), (.int 0), (.ref b), (.ref x)])) rfl (by rw [hml]; rfl) (Steps.refl _) (a := x) (argsL := [(.ref b), (.int 0), (.int 1), .null]) (rest := []) (lenOf pd_16 rfl) rfl (by show 2 * 0 + _ ≤ _; exact Nat.le_of_eq rfl) (hb hby dj42_3_6) (fun _ _ => ⟨rfl, e0, (by decide : 0 + 2 ≤ _), (by decide : 0 + 9 ≤ _)⟩)
  dsimp only [Pt.U, Pt.locs, Pt.cells, Pt.slots] at X2 l2 y2 z2 st2 hQ2
  subst l2 y2 z2
  obtain ⟨t_2, k_2, rfl, Nq2, Kq2, q2_0, q2_1, q2_2, q2_3, q2_4⟩ := hQ2
  have N2 := Fr.app N0 Nq2
  have g_t_2 : n0 ≤ t_2 := Nat.le_trans (own_osz O0) q2_3
  have sz_t_2 : h0.size ≤ t_2 := Nat.le_trans K0.1 q2_3
  have K3 : Keep h0 T2.heap [x] := K0.trans Kq2 (allS (Or.inl (List.mem_of_getElem? (i := 0) rfl)) all0)
  obtain ⟨fs, hr, hrun, hended, hW, hsame⟩ := X2.leave (v := none) (fun _ => rfl)
  refine ⟨_, _, pre0 _ ?_, hrun, hended, _, _, rfl, ?_, ⟨_, rfl⟩, hW, hsame.mono (by decide) (by decide)⟩
  · refine XS.aloadN X0.here hx rfl (hb hby dj42_3_0) rfl rfl ?_
    show Steps _ _ _ (s₁.setTop (mkF mM 1 #[.val (.ref x), .val (.ref b)] [(.ref x)])) _
    refine XS.aloadN X0.here hx rfl (hb hby dj42_3_1) rfl rfl ?_
    show Steps _ _ _ (s₁.setTop (mkF mM 2 #[.val (.ref x), .val (.ref b)] [(.ref b), (.ref x)])) _
    refine XS.iconst X0.here hx rfl (hb hby dj42_3_2) ?_
    show Steps _ _ _ (s₁.setTop (mkF mM 3 #[.val (.ref x), .val (.ref b)] [(.int 0), (.ref b), (.ref x)])) _
    refine XS.aloadN X0.here hx rfl (hb hby dj42_3_3) rfl rfl ?_
    show Steps _ _ _ (s₁.setTop (mkF mM 4 #[.val (.ref x), .val (.ref b)] [(.ref b), (.int 0), (.ref b), (.ref x)])) _
    refine X0.arraylength hx (by rw [e0]; exact Ar1.1) (State.isArrayOf_alike hZ.alike Ar1.2.1) (g := (mkF mM 4 #[.val (.ref x), .val (.ref b)] [(.ref b), (.int 0), (.ref b), (.ref x)])) rfl rfl (hb hby dj42_3_4) _ ?_
    rw [len_of S1 Nn1]
    show Steps _ _ _ (s₁.setTop (mkF mM 5 #[.val (.ref x), .val (.ref b)] [(.int 1), (.int 0), (.ref b), (.ref x)])) _
    refine XS.aconstNull X0.here hx rfl (hb hby dj42_3_5) ?_
    show Steps _ _ _ (s₁.setTop (mkF mM 6 #[.val (.ref x), .val (.ref b)] [.null, (.int 1), (.int 0), (.ref b), (.ref x)])) _
    refine st2.trans ?_
    show Steps _ _ _ (T2.setTop (mkF mM 9 #[.val (.ref x), .val (.ref b)] [])) _
    exact X2.returnOut hx Bd.returns (hb hby dj42_3_9) hr
  · show Q_in11 Z x b kb u1 u2 c0 zc h0 n0 _ T2.heap _
    exact ⟨t_2, k_2, rfl, N2, K3, q2_0, q2_1, q2_2, sz_t_2, q2_4⟩
theorem ef_in42 (m : MethodId) (x0 : Addr) (x1 : Addr) (x2 : Int32) (x3 : Int32) : entryFrame m #[(.ref x0), (.ref x1), (.int x2), (.int x3), .null] 6 = mkF m 0 #[.val (.ref x0), .val (.ref x1), .val (.int x2), .val (.int x3), .val .null, .unset] [] := by first | (simp [entryFrame, mkF, argsToLocals, Value.category]; done) | rfl
def Q_in42 (Z : State) (x : Addr) (b : Addr) (kb : ClassId) (u1 : Value) (u2 : Value) (c0 : Int32) (c1 : Int32) (zc : Int32) (h0 : Heap) (n0 : Nat) (vV : Option Value) (h : Heap) (LL : List Loc) : Prop := ∃ (t : Addr) (k : ClassId), vV = none ∧ Fr n0 LL ∧ Keep h0 h [x] ∧ Exa Z h x "java/lang/String" ∧ Fld Z h x "java/lang/String" "value" "[B" (.ref t) ∧ Fld Z h x "java/lang/String" "coder" "B" (.int 1) ∧ h0.size ≤ t ∧ Arv Z h t k .byte (Int32.ofNat (2 * 2)) (own_u16 [c0, c1]) (.int 0)
set_option maxRecDepth 65536 in
set_option maxHeartbeats 40000000 in
theorem rm_in42 (l : Launch) (Z : State) (a0 : Array Value) (hw : ∀ d ∈ tables_1, d.before a0 Z = true) (ws : List Jvm.Cond) (x : Addr) (b : Addr) (kb : ClassId) (u1 : Value) (u2 : Value) (c0 : Int32) (c1 : Int32) (zc : Int32) (h0 : Heap) (n0 : Nat) (O0 : Old Z n0 h0) (E_x : Exa Z h0 x "java/lang/String") (F_x_value : Fld Z h0 x "java/lang/String" "value" "[B" u1) (F_x_coder : Fld Z h0 x "java/lang/String" "coder" "B" u2) (g_x : n0 ≤ x) (V_b : Arv Z h0 b kb .char (2 : Int32) [(.int c0), (.int c1)] (.int 0)) (hp5 : ((own_fi ([c0, c1] : List Int32)) < 2)) (hp6 : (∀ c ∈ ([c0, c1] : List Int32), ¬ c < 0 ∧ ¬ (65535 : Int32) < c)) (S__assertionsDisabled : Sta Z Z.heap "java/lang/StringUTF16" "$assertionsDisabled" "Z" (.int 1)) (S_HI_BYTE_SHIFT : Sta Z Z.heap "java/lang/StringUTF16" "HI_BYTE_SHIFT" "I" (.int 0)) (S_LO_BYTE_SHIFT : Sta Z Z.heap "java/lang/StringUTF16" "LO_BYTE_SHIFT" "I" (.int 8)) (S_COMPACT_STRINGS : Sta Z Z.heap "java/lang/String" "COMPACT_STRINGS" "Z" (.int zc)) (hp11 : (¬ (zc = (0 : Int32)))) :
    MetFree l (⟨"java/lang/String", "<init>", "([CIILjava/lang/Void;)V"⟩ : MethodName) (head1 (Jvm.Cond.code (⟨"java/lang/String", "<init>", "([CIILjava/lang/Void;)V"⟩ : MethodName) jdk_42_method_149_code 6 none :: ws) (⟨4, 2, 10, 57⟩ : Room)) (fun aa_ U => aa_ = #[(.ref x), (.ref b), (.int 0), (.int 2), .null] ∧ Z.Warmed39 U.vm ∧ U.heap = h0) (fun _ _ _ _ _ => True) (fun _ U o U' => ∃ vV LL, o = .returned vV ∧ Q_in42 Z x b kb u1 u2 c0 c1 zc h0 n0 vV U'.heap LL ∧ FrameEnd U o U' LL (⟨4, 2, 10, 57⟩ : Room).cells (⟨4, 2, 10, 57⟩ : Room).slots) := by
  refine MetFree.of_bodySF (plainFor_of_name pn_1) hisR ?_
  intro pP eE sS mM args below meth cC s₁ Bd hml0 hP hK
  obtain ⟨rfl, hZ, hh⟩ := hP
  have hx := Bd.exec
  have hby := Bd.bytes
  have hml : cC.maxLocals = 6 := hml0
  have hown : sS.vm.findClass "java/lang/String" = some mM.cls := findClass_of_methodNamed Bd.named
  have hnm := (name_of_methodNamed Bd.named Bd.method).1
  have X0 : Stand pP l eE (⟨4, 2, 10, 57⟩ : Room) sS mM #[(.ref x), (.ref b), (.int 0), (.int 2), .null] below meth cC s₁ [] 0 0 := Stand.of_body Bd
  have e0 : s₁.heap = h0 := by rw [← hh, Bd.state]; rfl
  have N0 := Fr.nil n0
  have pre0 : ∀ tg, Steps pP.tables eE below (s₁.setTop (mkF mM 0 #[.val (.ref x), .val (.ref b), .val (.int 0), .val (.int 2), .val .null, .unset] [])) tg → Steps pP.tables eE below (s₁.setTop (entryFrame mM #[(.ref x), (.ref b), (.int 0), (.int 2), .null] 6)) tg := fun tg kg => castTop (ef_in42 mM x b (0 : Int32) (2 : Int32)) kg
  have K0 : Keep h0 h0 [x] := Keep.refl _ _
  obtain ⟨T1, X1, e1, st1⟩ := initO X0 hx hZ hown (w_17 hw) (w_18 hw) (w_19 hw) e0 (g := (mkF mM 1 #[.val (.ref x), .val (.ref b), .val (.int 0), .val (.int 2), .val .null, .unset] [(.ref x)])) rfl (by rw [hml]; rfl) rfl (hb hby dj42_149_1) (by decide) (W := 0) (by show 2 * 0 + _ ≤ _; exact Nat.le_of_eq rfl) (by decide)
  obtain ⟨T2, X2, e2, st2⟩ := getS2 X1 hx hZ hown (host := "") (Or.inl (w_47 hw)) Via.refl e1 (Sta.ext (O0).2 S_COMPACT_STRINGS) (g := (mkF mM 27 #[.val (.ref x), .val (.ref b), .val (.int 0), .val (.int 2), .val .null, .unset] [])) rfl (hb hby dj42_149_27)
  obtain ⟨_, _, ⟨T3, L3, k3, n3⟩, -, X3, ⟨Lc3, hQ3, l3, y3, z3⟩, st3⟩ := Jvm.LawKit.callS X2 hx (y := (⟨"java/lang/StringUTF16", "compress", "([CII)[B"⟩ : MethodName)) hown (mvT hZ (w_72 hw)) (mvT hZ (w_73 hw)) (mvT hZ (w_74 hw)) (mvT hZ (w_75 hw)) (by decide) (backOf (W := 0) (rm_cp2 l Z a0 hw [] b kb c0 c1 h0 n0 O0 V_b (hp5 : (own_fi ([c0, c1] : List Int32)) < 2) (hp6 : ∀ c ∈ ([c0, c1] : List Int32), ¬ c < 0 ∧ ¬ (65535 : Int32) < c) S__assertionsDisabled S_HI_BYTE_SHIFT S_LO_BYTE_SHIFT) hZ (w_75 hw) (w_74 hw) (by decide) (by decide)) (g := (mkF mM 36 #[.val (.ref x), .val (.ref b), .val (.int 0), .val (.int 2), .val .null, .unset] [(.int 2), (.int 0), (.ref b)])) rfl (by rw [hml]; rfl) (argsL := [(.ref b), (.int 0), (.int 2)]) (rest := []) (lenOf pd_14 rfl) rfl (by show 2 * 0 + _ ≤ _; exact Nat.le_of_eq rfl) (hb hby dj42_149_36) (fun _ _ => ⟨rfl, e2, (by decide : 0 + 2 ≤ _), (by decide : 0 + 10 ≤ _)⟩)
  dsimp only [Pt.U, Pt.locs, Pt.cells, Pt.slots] at X3 l3 y3 z3 st3 hQ3
  subst l3 y3 z3
  obtain ⟨a_3, ka_3, rfl, Nq3, Kq3, q3_0, q3_1⟩ := hQ3
  have N3 := Fr.app N0 Nq3
  have g_a_3 : n0 ≤ a_3 := Nat.le_trans (own_osz O0) q3_0
  have sz_a_3 : h0.size ≤ a_3 := Nat.le_trans K0.1 q3_0
  have K4 : Keep h0 T3.heap [x] := K0.trans Kq3 all0
  have f5 := (O0.keep Kq3 all0)
  obtain ⟨_, _, ⟨T6, L6, k6, n6⟩, -, X6, ⟨Lc6, hQ6, l6, y6, z6⟩, st6⟩ := Jvm.LawKit.callS X3 hx (y := (⟨"java/lang/StringUTF16", "coderFromArrayLen", "([BI)B"⟩ : MethodName)) hown (mvT hZ (w_79 hw)) (mvT hZ (w_80 hw)) (mvT hZ (w_74 hw)) (mvT hZ (w_81 hw)) (by decide) (backOf (W := 1) (rm_cfa2 l Z a0 hw [] a_3 ka_3 (own_u16 [c0, c1]) T3.heap n0 f5 q3_1) hZ (w_81 hw) (w_74 hw) (by decide) (by decide)) (g := (mkF mM 45 #[.val (.ref x), .val (.ref b), .val (.int 0), .val (.int 2), .val .null, .val (.ref a_3)] [(.int 2), (.ref a_3), (.ref x)])) rfl (by rw [hml]; rfl) (argsL := [(.ref a_3), (.int 2)]) (rest := [(.ref x)]) (lenOf pd_15 rfl) rfl (by show 2 * 0 + _ ≤ _; exact Nat.le_of_eq rfl) (hb hby dj42_149_45) (fun _ _ => ⟨rfl, rfl, (by decide : 2 + 0 ≤ _), (by decide : 10 + 0 ≤ _)⟩)
  dsimp only [Pt.U, Pt.locs, Pt.cells, Pt.slots] at X6 l6 y6 z6 st6 hQ6
  subst l6 y6 z6
  obtain ⟨rfl, rfl, Kq6⟩ := hQ6
  try rw [List.append_nil] at X6
  have f7 := (F_x_coder.keep Kq3 nin0)
  have f8 := (E_x.keep Kq3)
  obtain ⟨T9, h9, X9, e9, W9, st9⟩ := putFN X6 hx hZ hown (w_27 hw) Via.refl Kq6 f7 f8 (Or.inr ⟨(w_23 hw), rfl, hnm⟩) (w_8 hw) (ty := .byte) (v' := (.int (nar .byte (1 : Int32)))) (by decide) rfl (fits_nar_byte _) (g := (mkF mM 48 #[.val (.ref x), .val (.ref b), .val (.int 0), .val (.int 2), .val .null, .val (.ref a_3)] [(.int 1), (.ref x)])) rfl rfl (hb hby dj42_149_48)
  have K10 : Keep h0 h9 [x] := K4.wr W9 (Or.inl (List.mem_of_getElem? (i := 0) rfl))
  have Fw9 : Fld Z h9 x "java/lang/String" "coder" "B" (.int 1) := f7.same W9
  have N9 := Fr.snoc X9 N3 g_x
  have f11 := ((F_x_value.keep Kq3 nin0).other W9 (Or.inr (slot_ne (Or.inr (w_22 hw)) (Or.inr (w_23 hw)) (by decide) (t := (.array .byte)) (t' := .byte) (by decide) (by decide))))
  have f12 := (f8.wr W9)
  obtain ⟨T13, h13, X13, e13, W13, st13⟩ := putF X9 hx hZ hown (host := "") (Or.inl (w_26 hw)) Via.refl e9 f11 f12 (Or.inr ⟨(w_22 hw), rfl, hnm⟩) (w_8 hw) (ty := (.array .byte)) (by decide) rfl rfl (g := (mkF mM 54 #[.val (.ref x), .val (.ref b), .val (.int 0), .val (.int 2), .val .null, .val (.ref a_3)] [(.ref a_3), (.ref x)])) rfl rfl (hb hby dj42_149_54)
  have K14 : Keep h0 h13 [x] := K10.wr W13 (Or.inl (List.mem_of_getElem? (i := 0) rfl))
  have Fw13 : Fld Z h13 x "java/lang/String" "value" "[B" (.ref a_3) := f11.same W13
  have N13 := Fr.snoc X13 N9 g_x
  have f16 := (f12.wr W13)
  have f17 := (Fw9.other W13 (Or.inr (slot_ne (Or.inr (w_23 hw)) (Or.inr (w_22 hw)) (by decide) (t := .byte) (t' := (.array .byte)) (by decide) (by decide))))
  have f18 := ((q3_1.other W9 (Ne.symm (Nat.ne_of_lt (Nat.lt_of_lt_of_le (E_x).lt q3_0)))).other W13 (Ne.symm (Nat.ne_of_lt (Nat.lt_of_lt_of_le (E_x).lt q3_0))))
  obtain ⟨fs, hr, hrun, hended, hW, hsame⟩ := X13.leave (v := none) (fun _ => rfl)
  refine ⟨_, _, pre0 _ ?_, hrun, hended, _, _, rfl, ?_, ⟨_, rfl⟩, hW, hsame.mono (by decide) (by decide)⟩
  · refine XS.aloadN X0.here hx rfl (hb hby dj42_149_0) rfl rfl ?_
    show Steps _ _ _ (s₁.setTop (mkF mM 1 #[.val (.ref x), .val (.ref b), .val (.int 0), .val (.int 2), .val .null, .unset] [(.ref x)])) _
    refine st1 _ ?_
    show Steps _ _ _ (T1.setTop (mkF mM 4 #[.val (.ref x), .val (.ref b), .val (.int 0), .val (.int 2), .val .null, .unset] [])) _
    refine XS.iloadN X1.here hx rfl (hb hby dj42_149_4) rfl ?_
    show Steps _ _ _ (T1.setTop (mkF mM 5 #[.val (.ref x), .val (.ref b), .val (.int 0), .val (.int 2), .val .null, .unset] [(.int 2)])) _
    refine XS.ifYes X1.here hx rfl (pc0 := 5) (pc' := 27) rfl (hb hby dj42_149_5) rfl ((if0 _ _).trans (feq (by decide : ¬ ((2 : Int32) = (0 : Int32)))).2) (by decide) (by decide) ?_
    show Steps _ _ _ (T1.setTop (mkF mM 27 #[.val (.ref x), .val (.ref b), .val (.int 0), .val (.int 2), .val .null, .unset] [])) _
    refine st2 _ ?_
    show Steps _ _ _ (T2.setTop (mkF mM 30 #[.val (.ref x), .val (.ref b), .val (.int 0), .val (.int 2), .val .null, .unset] [(.int zc)])) _
    refine XS.ifNo X2.here hx rfl (hb hby dj42_149_30) rfl ((if0 _ _).trans (feq hp11).1) ?_
    show Steps _ _ _ (T2.setTop (mkF mM 33 #[.val (.ref x), .val (.ref b), .val (.int 0), .val (.int 2), .val .null, .unset] [])) _
    refine XS.aloadN X2.here hx rfl (hb hby dj42_149_33) rfl rfl ?_
    show Steps _ _ _ (T2.setTop (mkF mM 34 #[.val (.ref x), .val (.ref b), .val (.int 0), .val (.int 2), .val .null, .unset] [(.ref b)])) _
    refine XS.iloadN X2.here hx rfl (hb hby dj42_149_34) rfl ?_
    show Steps _ _ _ (T2.setTop (mkF mM 35 #[.val (.ref x), .val (.ref b), .val (.int 0), .val (.int 2), .val .null, .unset] [(.int 0), (.ref b)])) _
    refine XS.iloadN X2.here hx rfl (hb hby dj42_149_35) rfl ?_
    show Steps _ _ _ (T2.setTop (mkF mM 36 #[.val (.ref x), .val (.ref b), .val (.int 0), .val (.int 2), .val .null, .unset] [(.int 2), (.int 0), (.ref b)])) _
    refine st3 _ ?_
    show Steps _ _ _ (T3.setTop (mkF mM 39 #[.val (.ref x), .val (.ref b), .val (.int 0), .val (.int 2), .val .null, .unset] [(.ref a_3)])) _
    refine XS.astore X3.here hx rfl (hb hby dj42_149_39) rfl rfl (l' := #[.val (.ref x), .val (.ref b), .val (.int 0), .val (.int 2), .val .null, .val (.ref a_3)]) rfl ?_
    show Steps _ _ _ (T3.setTop (mkF mM 41 #[.val (.ref x), .val (.ref b), .val (.int 0), .val (.int 2), .val .null, .val (.ref a_3)] [])) _
    refine XS.aloadN X3.here hx rfl (hb hby dj42_149_41) rfl rfl ?_
    show Steps _ _ _ (T3.setTop (mkF mM 42 #[.val (.ref x), .val (.ref b), .val (.int 0), .val (.int 2), .val .null, .val (.ref a_3)] [(.ref x)])) _
    refine XS.aload X3.here hx rfl (hb hby dj42_149_42) rfl rfl ?_
    show Steps _ _ _ (T3.setTop (mkF mM 44 #[.val (.ref x), .val (.ref b), .val (.int 0), .val (.int 2), .val .null, .val (.ref a_3)] [(.ref a_3), (.ref x)])) _
    refine XS.iloadN X3.here hx rfl (hb hby dj42_149_44) rfl ?_
    show Steps _ _ _ (T3.setTop (mkF mM 45 #[.val (.ref x), .val (.ref b), .val (.int 0), .val (.int 2), .val .null, .val (.ref a_3)] [(.int 2), (.ref a_3), (.ref x)])) _
    refine st6 _ ?_
    show Steps _ _ _ (T6.setTop (mkF mM 48 #[.val (.ref x), .val (.ref b), .val (.int 0), .val (.int 2), .val .null, .val (.ref a_3)] [(.int 1), (.ref x)])) _
    refine st9 _ ?_
    show Steps _ _ _ (T9.setTop (mkF mM 51 #[.val (.ref x), .val (.ref b), .val (.int 0), .val (.int 2), .val .null, .val (.ref a_3)] [])) _
    refine XS.aloadN X9.here hx rfl (hb hby dj42_149_51) rfl rfl ?_
    show Steps _ _ _ (T9.setTop (mkF mM 52 #[.val (.ref x), .val (.ref b), .val (.int 0), .val (.int 2), .val .null, .val (.ref a_3)] [(.ref x)])) _
    refine XS.aload X9.here hx rfl (hb hby dj42_149_52) rfl rfl ?_
    show Steps _ _ _ (T9.setTop (mkF mM 54 #[.val (.ref x), .val (.ref b), .val (.int 0), .val (.int 2), .val .null, .val (.ref a_3)] [(.ref a_3), (.ref x)])) _
    refine st13 _ ?_
    show Steps _ _ _ (T13.setTop (mkF mM 57 #[.val (.ref x), .val (.ref b), .val (.int 0), .val (.int 2), .val .null, .val (.ref a_3)] [])) _
    exact X13.returnOut hx Bd.returns (hb hby dj42_149_57) hr
  · show Q_in42 Z x b kb u1 u2 c0 c1 zc h0 n0 _ T13.heap _
    rw [e13]
    exact ⟨a_3, ka_3, rfl, N13, K14, f16, Fw13, f17, sz_a_3, f18⟩
theorem ef_in12 (m : MethodId) (x0 : Addr) (x1 : Addr) : entryFrame m #[(.ref x0), (.ref x1)] 2 = mkF m 0 #[.val (.ref x0), .val (.ref x1)] [] := by first | (simp [entryFrame, mkF, argsToLocals, Value.category]; done) | rfl
def Q_in12 (Z : State) (x : Addr) (b : Addr) (kb : ClassId) (u1 : Value) (u2 : Value) (c0 : Int32) (c1 : Int32) (zc : Int32) (h0 : Heap) (n0 : Nat) (vV : Option Value) (h : Heap) (LL : List Loc) : Prop := ∃ (t : Addr) (k : ClassId), vV = none ∧ Fr n0 LL ∧ Keep h0 h [x] ∧ Exa Z h x "java/lang/String" ∧ Fld Z h x "java/lang/String" "value" "[B" (.ref t) ∧ Fld Z h x "java/lang/String" "coder" "B" (.int 1) ∧ h0.size ≤ t ∧ Arv Z h t k .byte (Int32.ofNat (2 * 2)) (own_u16 [c0, c1]) (.int 0)
set_option maxRecDepth 65536 in
set_option maxHeartbeats 40000000 in
theorem rm_in12 (l : Launch) (Z : State) (a0 : Array Value) (hw : ∀ d ∈ tables_1, d.before a0 Z = true) (ws : List Jvm.Cond) (x : Addr) (b : Addr) (kb : ClassId) (u1 : Value) (u2 : Value) (c0 : Int32) (c1 : Int32) (zc : Int32) (h0 : Heap) (n0 : Nat) (O0 : Old Z n0 h0) (E_x : Exa Z h0 x "java/lang/String") (F_x_value : Fld Z h0 x "java/lang/String" "value" "[B" u1) (F_x_coder : Fld Z h0 x "java/lang/String" "coder" "B" u2) (g_x : n0 ≤ x) (V_b : Arv Z h0 b kb .char (2 : Int32) [(.int c0), (.int c1)] (.int 0)) (hp5 : ((own_fi ([c0, c1] : List Int32)) < 2)) (hp6 : (∀ c ∈ ([c0, c1] : List Int32), ¬ c < 0 ∧ ¬ (65535 : Int32) < c)) (S__assertionsDisabled : Sta Z Z.heap "java/lang/StringUTF16" "$assertionsDisabled" "Z" (.int 1)) (S_HI_BYTE_SHIFT : Sta Z Z.heap "java/lang/StringUTF16" "HI_BYTE_SHIFT" "I" (.int 0)) (S_LO_BYTE_SHIFT : Sta Z Z.heap "java/lang/StringUTF16" "LO_BYTE_SHIFT" "I" (.int 8)) (S_COMPACT_STRINGS : Sta Z Z.heap "java/lang/String" "COMPACT_STRINGS" "Z" (.int zc)) (hp11 : (¬ (zc = (0 : Int32)))) :
    MetFree l (⟨"java/lang/String", "<init>", "([C)V"⟩ : MethodName) (head1 (Jvm.Cond.code (⟨"java/lang/String", "<init>", "([C)V"⟩ : MethodName) jdk_42_method_3_code 2 none :: ws) (⟨5, 2, 10, 74⟩ : Room)) (fun aa_ U => aa_ = #[(.ref x), (.ref b)] ∧ Z.Warmed39 U.vm ∧ U.heap = h0) (fun _ _ _ _ _ => True) (fun _ U o U' => ∃ vV LL, o = .returned vV ∧ Q_in12 Z x b kb u1 u2 c0 c1 zc h0 n0 vV U'.heap LL ∧ FrameEnd U o U' LL (⟨5, 2, 10, 74⟩ : Room).cells (⟨5, 2, 10, 74⟩ : Room).slots) := by
  refine MetFree.of_bodySF (plainFor_of_name pn_1) hisR ?_
  intro pP eE sS mM args below meth cC s₁ Bd hml0 hP hK
  obtain ⟨rfl, hZ, hh⟩ := hP
  have hx := Bd.exec
  have hby := Bd.bytes
  have hml : cC.maxLocals = 2 := hml0
  have hown : sS.vm.findClass "java/lang/String" = some mM.cls := findClass_of_methodNamed Bd.named
  have hnm := (name_of_methodNamed Bd.named Bd.method).1
  have X0 : Stand pP l eE (⟨5, 2, 10, 74⟩ : Room) sS mM #[(.ref x), (.ref b)] below meth cC s₁ [] 0 0 := Stand.of_body Bd
  have e0 : s₁.heap = h0 := by rw [← hh, Bd.state]; rfl
  have N0 := Fr.nil n0
  have pre0 : ∀ tg, Steps pP.tables eE below (s₁.setTop (mkF mM 0 #[.val (.ref x), .val (.ref b)] [])) tg → Steps pP.tables eE below (s₁.setTop (entryFrame mM #[(.ref x), (.ref b)] 2)) tg := fun tg kg => castTop (ef_in12 mM x b) kg
  have K0 : Keep h0 h0 [x] := Keep.refl _ _
  obtain ⟨cl1, Ar1, -, S1, Nn1, -, -⟩ := id V_b
  obtain ⟨_, _, ⟨T2, L2, k2, n2⟩, -, X2, ⟨Lc2, hQ2, l2, y2, z2⟩, st2⟩ := X0.specialBack hx (y := (⟨"java/lang/String", "<init>", "([CIILjava/lang/Void;)V"⟩ : MethodName)) rfl hown (mvT hZ (w_13 hw)) (mvT hZ (w_14 hw)) (mvT hZ (w_16 hw)) (by decide) (backOf (W := 0) (rm_in42 l Z a0 hw [] x b kb u1 u2 c0 c1 zc h0 n0 O0 E_x F_x_value F_x_coder g_x V_b (hp5 : (own_fi ([c0, c1] : List Int32)) < 2) (hp6 : ∀ c ∈ ([c0, c1] : List Int32), ¬ c < 0 ∧ ¬ (65535 : Int32) < c) S__assertionsDisabled S_HI_BYTE_SHIFT S_LO_BYTE_SHIFT S_COMPACT_STRINGS hp11) hZ (w_16 hw) (w_9 hw) (by decide) (by decide)) (g := (mkF mM 6 #[.val (.ref x), .val (.ref b)] [.null, (.int 2), (.int 0), (.ref b), (.ref x)])) rfl (by rw [hml]; rfl) (Steps.refl _) (a := x) (argsL := [(.ref b), (.int 0), (.int 2), .null]) (rest := []) (lenOf pd_16 rfl) rfl (by show 2 * 0 + _ ≤ _; exact Nat.le_of_eq rfl) (hb hby dj42_3_6) (fun _ _ => ⟨rfl, e0, (by decide : 0 + 2 ≤ _), (by decide : 0 + 10 ≤ _)⟩)
  dsimp only [Pt.U, Pt.locs, Pt.cells, Pt.slots] at X2 l2 y2 z2 st2 hQ2
  subst l2 y2 z2
  obtain ⟨t_2, k_2, rfl, Nq2, Kq2, q2_0, q2_1, q2_2, q2_3, q2_4⟩ := hQ2
  have N2 := Fr.app N0 Nq2
  have g_t_2 : n0 ≤ t_2 := Nat.le_trans (own_osz O0) q2_3
  have sz_t_2 : h0.size ≤ t_2 := Nat.le_trans K0.1 q2_3
  have K3 : Keep h0 T2.heap [x] := K0.trans Kq2 (allS (Or.inl (List.mem_of_getElem? (i := 0) rfl)) all0)
  obtain ⟨fs, hr, hrun, hended, hW, hsame⟩ := X2.leave (v := none) (fun _ => rfl)
  refine ⟨_, _, pre0 _ ?_, hrun, hended, _, _, rfl, ?_, ⟨_, rfl⟩, hW, hsame.mono (by decide) (by decide)⟩
  · refine XS.aloadN X0.here hx rfl (hb hby dj42_3_0) rfl rfl ?_
    show Steps _ _ _ (s₁.setTop (mkF mM 1 #[.val (.ref x), .val (.ref b)] [(.ref x)])) _
    refine XS.aloadN X0.here hx rfl (hb hby dj42_3_1) rfl rfl ?_
    show Steps _ _ _ (s₁.setTop (mkF mM 2 #[.val (.ref x), .val (.ref b)] [(.ref b), (.ref x)])) _
    refine XS.iconst X0.here hx rfl (hb hby dj42_3_2) ?_
    show Steps _ _ _ (s₁.setTop (mkF mM 3 #[.val (.ref x), .val (.ref b)] [(.int 0), (.ref b), (.ref x)])) _
    refine XS.aloadN X0.here hx rfl (hb hby dj42_3_3) rfl rfl ?_
    show Steps _ _ _ (s₁.setTop (mkF mM 4 #[.val (.ref x), .val (.ref b)] [(.ref b), (.int 0), (.ref b), (.ref x)])) _
    refine X0.arraylength hx (by rw [e0]; exact Ar1.1) (State.isArrayOf_alike hZ.alike Ar1.2.1) (g := (mkF mM 4 #[.val (.ref x), .val (.ref b)] [(.ref b), (.int 0), (.ref b), (.ref x)])) rfl rfl (hb hby dj42_3_4) _ ?_
    rw [len_of S1 Nn1]
    show Steps _ _ _ (s₁.setTop (mkF mM 5 #[.val (.ref x), .val (.ref b)] [(.int 2), (.int 0), (.ref b), (.ref x)])) _
    refine XS.aconstNull X0.here hx rfl (hb hby dj42_3_5) ?_
    show Steps _ _ _ (s₁.setTop (mkF mM 6 #[.val (.ref x), .val (.ref b)] [.null, (.int 2), (.int 0), (.ref b), (.ref x)])) _
    refine st2.trans ?_
    show Steps _ _ _ (T2.setTop (mkF mM 9 #[.val (.ref x), .val (.ref b)] [])) _
    exact X2.returnOut hx Bd.returns (hb hby dj42_3_9) hr
  · show Q_in12 Z x b kb u1 u2 c0 c1 zc h0 n0 _ T2.heap _
    exact ⟨t_2, k_2, rfl, N2, K3, q2_0, q2_1, q2_2, sz_t_2, q2_4⟩
theorem ef_in43 (m : MethodId) (x0 : Addr) (x1 : Addr) (x2 : Int32) (x3 : Int32) : entryFrame m #[(.ref x0), (.ref x1), (.int x2), (.int x3), .null] 6 = mkF m 0 #[.val (.ref x0), .val (.ref x1), .val (.int x2), .val (.int x3), .val .null, .unset] [] := by first | (simp [entryFrame, mkF, argsToLocals, Value.category]; done) | rfl
def Q_in43 (Z : State) (x : Addr) (b : Addr) (kb : ClassId) (u1 : Value) (u2 : Value) (c0 : Int32) (c1 : Int32) (c2 : Int32) (zc : Int32) (h0 : Heap) (n0 : Nat) (vV : Option Value) (h : Heap) (LL : List Loc) : Prop := ∃ (t : Addr) (k : ClassId), vV = none ∧ Fr n0 LL ∧ Keep h0 h [x] ∧ Exa Z h x "java/lang/String" ∧ Fld Z h x "java/lang/String" "value" "[B" (.ref t) ∧ Fld Z h x "java/lang/String" "coder" "B" (.int 1) ∧ h0.size ≤ t ∧ Arv Z h t k .byte (Int32.ofNat (2 * 3)) (own_u16 [c0, c1, c2]) (.int 0)
set_option maxRecDepth 65536 in
set_option maxHeartbeats 40000000 in
theorem rm_in43 (l : Launch) (Z : State) (a0 : Array Value) (hw : ∀ d ∈ tables_1, d.before a0 Z = true) (ws : List Jvm.Cond) (x : Addr) (b : Addr) (kb : ClassId) (u1 : Value) (u2 : Value) (c0 : Int32) (c1 : Int32) (c2 : Int32) (zc : Int32) (h0 : Heap) (n0 : Nat) (O0 : Old Z n0 h0) (E_x : Exa Z h0 x "java/lang/String") (F_x_value : Fld Z h0 x "java/lang/String" "value" "[B" u1) (F_x_coder : Fld Z h0 x "java/lang/String" "coder" "B" u2) (g_x : n0 ≤ x) (V_b : Arv Z h0 b kb .char (3 : Int32) [(.int c0), (.int c1), (.int c2)] (.int 0)) (hp5 : ((own_fi ([c0, c1, c2] : List Int32)) < 3)) (hp6 : (∀ c ∈ ([c0, c1, c2] : List Int32), ¬ c < 0 ∧ ¬ (65535 : Int32) < c)) (S__assertionsDisabled : Sta Z Z.heap "java/lang/StringUTF16" "$assertionsDisabled" "Z" (.int 1)) (S_HI_BYTE_SHIFT : Sta Z Z.heap "java/lang/StringUTF16" "HI_BYTE_SHIFT" "I" (.int 0)) (S_LO_BYTE_SHIFT : Sta Z Z.heap "java/lang/StringUTF16" "LO_BYTE_SHIFT" "I" (.int 8)) (S_COMPACT_STRINGS : Sta Z Z.heap "java/lang/String" "COMPACT_STRINGS" "Z" (.int zc)) (hp11 : (¬ (zc = (0 : Int32)))) :
    MetFree l (⟨"java/lang/String", "<init>", "([CIILjava/lang/Void;)V"⟩ : MethodName) (head1 (Jvm.Cond.code (⟨"java/lang/String", "<init>", "([CIILjava/lang/Void;)V"⟩ : MethodName) jdk_42_method_149_code 6 none :: ws) (⟨4, 2, 11, 57⟩ : Room)) (fun aa_ U => aa_ = #[(.ref x), (.ref b), (.int 0), (.int 3), .null] ∧ Z.Warmed39 U.vm ∧ U.heap = h0) (fun _ _ _ _ _ => True) (fun _ U o U' => ∃ vV LL, o = .returned vV ∧ Q_in43 Z x b kb u1 u2 c0 c1 c2 zc h0 n0 vV U'.heap LL ∧ FrameEnd U o U' LL (⟨4, 2, 11, 57⟩ : Room).cells (⟨4, 2, 11, 57⟩ : Room).slots) := by
  refine MetFree.of_bodySF (plainFor_of_name pn_1) hisR ?_
  intro pP eE sS mM args below meth cC s₁ Bd hml0 hP hK
  obtain ⟨rfl, hZ, hh⟩ := hP
  have hx := Bd.exec
  have hby := Bd.bytes
  have hml : cC.maxLocals = 6 := hml0
  have hown : sS.vm.findClass "java/lang/String" = some mM.cls := findClass_of_methodNamed Bd.named
  have hnm := (name_of_methodNamed Bd.named Bd.method).1
  have X0 : Stand pP l eE (⟨4, 2, 11, 57⟩ : Room) sS mM #[(.ref x), (.ref b), (.int 0), (.int 3), .null] below meth cC s₁ [] 0 0 := Stand.of_body Bd
  have e0 : s₁.heap = h0 := by rw [← hh, Bd.state]; rfl
  have N0 := Fr.nil n0
  have pre0 : ∀ tg, Steps pP.tables eE below (s₁.setTop (mkF mM 0 #[.val (.ref x), .val (.ref b), .val (.int 0), .val (.int 3), .val .null, .unset] [])) tg → Steps pP.tables eE below (s₁.setTop (entryFrame mM #[(.ref x), (.ref b), (.int 0), (.int 3), .null] 6)) tg := fun tg kg => castTop (ef_in43 mM x b (0 : Int32) (3 : Int32)) kg
  have K0 : Keep h0 h0 [x] := Keep.refl _ _
  obtain ⟨T1, X1, e1, st1⟩ := initO X0 hx hZ hown (w_17 hw) (w_18 hw) (w_19 hw) e0 (g := (mkF mM 1 #[.val (.ref x), .val (.ref b), .val (.int 0), .val (.int 3), .val .null, .unset] [(.ref x)])) rfl (by rw [hml]; rfl) rfl (hb hby dj42_149_1) (by decide) (W := 0) (by show 2 * 0 + _ ≤ _; exact Nat.le_of_eq rfl) (by decide)
  obtain ⟨T2, X2, e2, st2⟩ := getS2 X1 hx hZ hown (host := "") (Or.inl (w_47 hw)) Via.refl e1 (Sta.ext (O0).2 S_COMPACT_STRINGS) (g := (mkF mM 27 #[.val (.ref x), .val (.ref b), .val (.int 0), .val (.int 3), .val .null, .unset] [])) rfl (hb hby dj42_149_27)
  obtain ⟨_, _, ⟨T3, L3, k3, n3⟩, -, X3, ⟨Lc3, hQ3, l3, y3, z3⟩, st3⟩ := Jvm.LawKit.callS X2 hx (y := (⟨"java/lang/StringUTF16", "compress", "([CII)[B"⟩ : MethodName)) hown (mvT hZ (w_72 hw)) (mvT hZ (w_73 hw)) (mvT hZ (w_74 hw)) (mvT hZ (w_75 hw)) (by decide) (backOf (W := 0) (rm_cp3 l Z a0 hw [] b kb c0 c1 c2 h0 n0 O0 V_b (hp5 : (own_fi ([c0, c1, c2] : List Int32)) < 3) (hp6 : ∀ c ∈ ([c0, c1, c2] : List Int32), ¬ c < 0 ∧ ¬ (65535 : Int32) < c) S__assertionsDisabled S_HI_BYTE_SHIFT S_LO_BYTE_SHIFT) hZ (w_75 hw) (w_74 hw) (by decide) (by decide)) (g := (mkF mM 36 #[.val (.ref x), .val (.ref b), .val (.int 0), .val (.int 3), .val .null, .unset] [(.int 3), (.int 0), (.ref b)])) rfl (by rw [hml]; rfl) (argsL := [(.ref b), (.int 0), (.int 3)]) (rest := []) (lenOf pd_14 rfl) rfl (by show 2 * 0 + _ ≤ _; exact Nat.le_of_eq rfl) (hb hby dj42_149_36) (fun _ _ => ⟨rfl, e2, (by decide : 0 + 2 ≤ _), (by decide : 0 + 11 ≤ _)⟩)
  dsimp only [Pt.U, Pt.locs, Pt.cells, Pt.slots] at X3 l3 y3 z3 st3 hQ3
  subst l3 y3 z3
  obtain ⟨a_3, ka_3, rfl, Nq3, Kq3, q3_0, q3_1⟩ := hQ3
  have N3 := Fr.app N0 Nq3
  have g_a_3 : n0 ≤ a_3 := Nat.le_trans (own_osz O0) q3_0
  have sz_a_3 : h0.size ≤ a_3 := Nat.le_trans K0.1 q3_0
  have K4 : Keep h0 T3.heap [x] := K0.trans Kq3 all0
  have f5 := (O0.keep Kq3 all0)
  obtain ⟨_, _, ⟨T6, L6, k6, n6⟩, -, X6, ⟨Lc6, hQ6, l6, y6, z6⟩, st6⟩ := Jvm.LawKit.callS X3 hx (y := (⟨"java/lang/StringUTF16", "coderFromArrayLen", "([BI)B"⟩ : MethodName)) hown (mvT hZ (w_79 hw)) (mvT hZ (w_80 hw)) (mvT hZ (w_74 hw)) (mvT hZ (w_81 hw)) (by decide) (backOf (W := 1) (rm_cfa3 l Z a0 hw [] a_3 ka_3 (own_u16 [c0, c1, c2]) T3.heap n0 f5 q3_1) hZ (w_81 hw) (w_74 hw) (by decide) (by decide)) (g := (mkF mM 45 #[.val (.ref x), .val (.ref b), .val (.int 0), .val (.int 3), .val .null, .val (.ref a_3)] [(.int 3), (.ref a_3), (.ref x)])) rfl (by rw [hml]; rfl) (argsL := [(.ref a_3), (.int 3)]) (rest := [(.ref x)]) (lenOf pd_15 rfl) rfl (by show 2 * 0 + _ ≤ _; exact Nat.le_of_eq rfl) (hb hby dj42_149_45) (fun _ _ => ⟨rfl, rfl, (by decide : 2 + 0 ≤ _), (by decide : 11 + 0 ≤ _)⟩)
  dsimp only [Pt.U, Pt.locs, Pt.cells, Pt.slots] at X6 l6 y6 z6 st6 hQ6
  subst l6 y6 z6
  obtain ⟨rfl, rfl, Kq6⟩ := hQ6
  try rw [List.append_nil] at X6
  have f7 := (F_x_coder.keep Kq3 nin0)
  have f8 := (E_x.keep Kq3)
  obtain ⟨T9, h9, X9, e9, W9, st9⟩ := putFN X6 hx hZ hown (w_27 hw) Via.refl Kq6 f7 f8 (Or.inr ⟨(w_23 hw), rfl, hnm⟩) (w_8 hw) (ty := .byte) (v' := (.int (nar .byte (1 : Int32)))) (by decide) rfl (fits_nar_byte _) (g := (mkF mM 48 #[.val (.ref x), .val (.ref b), .val (.int 0), .val (.int 3), .val .null, .val (.ref a_3)] [(.int 1), (.ref x)])) rfl rfl (hb hby dj42_149_48)
  have K10 : Keep h0 h9 [x] := K4.wr W9 (Or.inl (List.mem_of_getElem? (i := 0) rfl))
  have Fw9 : Fld Z h9 x "java/lang/String" "coder" "B" (.int 1) := f7.same W9
  have N9 := Fr.snoc X9 N3 g_x
  have f11 := ((F_x_value.keep Kq3 nin0).other W9 (Or.inr (slot_ne (Or.inr (w_22 hw)) (Or.inr (w_23 hw)) (by decide) (t := (.array .byte)) (t' := .byte) (by decide) (by decide))))
  have f12 := (f8.wr W9)
  obtain ⟨T13, h13, X13, e13, W13, st13⟩ := putF X9 hx hZ hown (host := "") (Or.inl (w_26 hw)) Via.refl e9 f11 f12 (Or.inr ⟨(w_22 hw), rfl, hnm⟩) (w_8 hw) (ty := (.array .byte)) (by decide) rfl rfl (g := (mkF mM 54 #[.val (.ref x), .val (.ref b), .val (.int 0), .val (.int 3), .val .null, .val (.ref a_3)] [(.ref a_3), (.ref x)])) rfl rfl (hb hby dj42_149_54)
  have K14 : Keep h0 h13 [x] := K10.wr W13 (Or.inl (List.mem_of_getElem? (i := 0) rfl))
  have Fw13 : Fld Z h13 x "java/lang/String" "value" "[B" (.ref a_3) := f11.same W13
  have N13 := Fr.snoc X13 N9 g_x
  have f16 := (f12.wr W13)
  have f17 := (Fw9.other W13 (Or.inr (slot_ne (Or.inr (w_23 hw)) (Or.inr (w_22 hw)) (by decide) (t := .byte) (t' := (.array .byte)) (by decide) (by decide))))
  have f18 := ((q3_1.other W9 (Ne.symm (Nat.ne_of_lt (Nat.lt_of_lt_of_le (E_x).lt q3_0)))).other W13 (Ne.symm (Nat.ne_of_lt (Nat.lt_of_lt_of_le (E_x).lt q3_0))))
  obtain ⟨fs, hr, hrun, hended, hW, hsame⟩ := X13.leave (v := none) (fun _ => rfl)
  refine ⟨_, _, pre0 _ ?_, hrun, hended, _, _, rfl, ?_, ⟨_, rfl⟩, hW, hsame.mono (by decide) (by decide)⟩
  · refine XS.aloadN X0.here hx rfl (hb hby dj42_149_0) rfl rfl ?_
    show Steps _ _ _ (s₁.setTop (mkF mM 1 #[.val (.ref x), .val (.ref b), .val (.int 0), .val (.int 3), .val .null, .unset] [(.ref x)])) _
    refine st1 _ ?_
    show Steps _ _ _ (T1.setTop (mkF mM 4 #[.val (.ref x), .val (.ref b), .val (.int 0), .val (.int 3), .val .null, .unset] [])) _
    refine XS.iloadN X1.here hx rfl (hb hby dj42_149_4) rfl ?_
    show Steps _ _ _ (T1.setTop (mkF mM 5 #[.val (.ref x), .val (.ref b), .val (.int 0), .val (.int 3), .val .null, .unset] [(.int 3)])) _
    refine XS.ifYes X1.here hx rfl (pc0 := 5) (pc' := 27) rfl (hb hby dj42_149_5) rfl ((if0 _ _).trans (feq (by decide : ¬ ((3 : Int32) = (0 : Int32)))).2) (by decide) (by decide) ?_
    show Steps _ _ _ (T1.setTop (mkF mM 27 #[.val (.ref x), .val (.ref b), .val (.int 0), .val (.int 3), .val .null, .unset] [])) _
    refine st2 _ ?_
    show Steps _ _ _ (T2.setTop (mkF mM 30 #[.val (.ref x), .val (.ref b), .val (.int 0), .val (.int 3), .val .null, .unset] [(.int zc)])) _
    refine XS.ifNo X2.here hx rfl (hb hby dj42_149_30) rfl ((if0 _ _).trans (feq hp11).1) ?_
    show Steps _ _ _ (T2.setTop (mkF mM 33 #[.val (.ref x), .val (.ref b), .val (.int 0), .val (.int 3), .val .null, .unset] [])) _
    refine XS.aloadN X2.here hx rfl (hb hby dj42_149_33) rfl rfl ?_
    show Steps _ _ _ (T2.setTop (mkF mM 34 #[.val (.ref x), .val (.ref b), .val (.int 0), .val (.int 3), .val .null, .unset] [(.ref b)])) _
    refine XS.iloadN X2.here hx rfl (hb hby dj42_149_34) rfl ?_
    show Steps _ _ _ (T2.setTop (mkF mM 35 #[.val (.ref x), .val (.ref b), .val (.int 0), .val (.int 3), .val .null, .unset] [(.int 0), (.ref b)])) _
    refine XS.iloadN X2.here hx rfl (hb hby dj42_149_35) rfl ?_
    show Steps _ _ _ (T2.setTop (mkF mM 36 #[.val (.ref x), .val (.ref b), .val (.int 0), .val (.int 3), .val .null, .unset] [(.int 3), (.int 0), (.ref b)])) _
    refine st3 _ ?_
    show Steps _ _ _ (T3.setTop (mkF mM 39 #[.val (.ref x), .val (.ref b), .val (.int 0), .val (.int 3), .val .null, .unset] [(.ref a_3)])) _
    refine XS.astore X3.here hx rfl (hb hby dj42_149_39) rfl rfl (l' := #[.val (.ref x), .val (.ref b), .val (.int 0), .val (.int 3), .val .null, .val (.ref a_3)]) rfl ?_
    show Steps _ _ _ (T3.setTop (mkF mM 41 #[.val (.ref x), .val (.ref b), .val (.int 0), .val (.int 3), .val .null, .val (.ref a_3)] [])) _
    refine XS.aloadN X3.here hx rfl (hb hby dj42_149_41) rfl rfl ?_
    show Steps _ _ _ (T3.setTop (mkF mM 42 #[.val (.ref x), .val (.ref b), .val (.int 0), .val (.int 3), .val .null, .val (.ref a_3)] [(.ref x)])) _
    refine XS.aload X3.here hx rfl (hb hby dj42_149_42) rfl rfl ?_
    show Steps _ _ _ (T3.setTop (mkF mM 44 #[.val (.ref x), .val (.ref b), .val (.int 0), .val (.int 3), .val .null, .val (.ref a_3)] [(.ref a_3), (.ref x)])) _
    refine XS.iloadN X3.here hx rfl (hb hby dj42_149_44) rfl ?_
    show Steps _ _ _ (T3.setTop (mkF mM 45 #[.val (.ref x), .val (.ref b), .val (.int 0), .val (.int 3), .val .null, .val (.ref a_3)] [(.int 3), (.ref a_3), (.ref x)])) _
    refine st6 _ ?_
    show Steps _ _ _ (T6.setTop (mkF mM 48 #[.val (.ref x), .val (.ref b), .val (.int 0), .val (.int 3), .val .null, .val (.ref a_3)] [(.int 1), (.ref x)])) _
    refine st9 _ ?_
    show Steps _ _ _ (T9.setTop (mkF mM 51 #[.val (.ref x), .val (.ref b), .val (.int 0), .val (.int 3), .val .null, .val (.ref a_3)] [])) _
    refine XS.aloadN X9.here hx rfl (hb hby dj42_149_51) rfl rfl ?_
    show Steps _ _ _ (T9.setTop (mkF mM 52 #[.val (.ref x), .val (.ref b), .val (.int 0), .val (.int 3), .val .null, .val (.ref a_3)] [(.ref x)])) _
    refine XS.aload X9.here hx rfl (hb hby dj42_149_52) rfl rfl ?_
    show Steps _ _ _ (T9.setTop (mkF mM 54 #[.val (.ref x), .val (.ref b), .val (.int 0), .val (.int 3), .val .null, .val (.ref a_3)] [(.ref a_3), (.ref x)])) _
    refine st13 _ ?_
    show Steps _ _ _ (T13.setTop (mkF mM 57 #[.val (.ref x), .val (.ref b), .val (.int 0), .val (.int 3), .val .null, .val (.ref a_3)] [])) _
    exact X13.returnOut hx Bd.returns (hb hby dj42_149_57) hr
  · show Q_in43 Z x b kb u1 u2 c0 c1 c2 zc h0 n0 _ T13.heap _
    rw [e13]
    exact ⟨a_3, ka_3, rfl, N13, K14, f16, Fw13, f17, sz_a_3, f18⟩
theorem ef_in13 (m : MethodId) (x0 : Addr) (x1 : Addr) : entryFrame m #[(.ref x0), (.ref x1)] 2 = mkF m 0 #[.val (.ref x0), .val (.ref x1)] [] := by first | (simp [entryFrame, mkF, argsToLocals, Value.category]; done) | rfl
def Q_in13 (Z : State) (x : Addr) (b : Addr) (kb : ClassId) (u1 : Value) (u2 : Value) (c0 : Int32) (c1 : Int32) (c2 : Int32) (zc : Int32) (h0 : Heap) (n0 : Nat) (vV : Option Value) (h : Heap) (LL : List Loc) : Prop := ∃ (t : Addr) (k : ClassId), vV = none ∧ Fr n0 LL ∧ Keep h0 h [x] ∧ Exa Z h x "java/lang/String" ∧ Fld Z h x "java/lang/String" "value" "[B" (.ref t) ∧ Fld Z h x "java/lang/String" "coder" "B" (.int 1) ∧ h0.size ≤ t ∧ Arv Z h t k .byte (Int32.ofNat (2 * 3)) (own_u16 [c0, c1, c2]) (.int 0)
set_option maxRecDepth 65536 in
set_option maxHeartbeats 40000000 in
theorem rm_in13 (l : Launch) (Z : State) (a0 : Array Value) (hw : ∀ d ∈ tables_1, d.before a0 Z = true) (ws : List Jvm.Cond) (x : Addr) (b : Addr) (kb : ClassId) (u1 : Value) (u2 : Value) (c0 : Int32) (c1 : Int32) (c2 : Int32) (zc : Int32) (h0 : Heap) (n0 : Nat) (O0 : Old Z n0 h0) (E_x : Exa Z h0 x "java/lang/String") (F_x_value : Fld Z h0 x "java/lang/String" "value" "[B" u1) (F_x_coder : Fld Z h0 x "java/lang/String" "coder" "B" u2) (g_x : n0 ≤ x) (V_b : Arv Z h0 b kb .char (3 : Int32) [(.int c0), (.int c1), (.int c2)] (.int 0)) (hp5 : ((own_fi ([c0, c1, c2] : List Int32)) < 3)) (hp6 : (∀ c ∈ ([c0, c1, c2] : List Int32), ¬ c < 0 ∧ ¬ (65535 : Int32) < c)) (S__assertionsDisabled : Sta Z Z.heap "java/lang/StringUTF16" "$assertionsDisabled" "Z" (.int 1)) (S_HI_BYTE_SHIFT : Sta Z Z.heap "java/lang/StringUTF16" "HI_BYTE_SHIFT" "I" (.int 0)) (S_LO_BYTE_SHIFT : Sta Z Z.heap "java/lang/StringUTF16" "LO_BYTE_SHIFT" "I" (.int 8)) (S_COMPACT_STRINGS : Sta Z Z.heap "java/lang/String" "COMPACT_STRINGS" "Z" (.int zc)) (hp11 : (¬ (zc = (0 : Int32)))) :
    MetFree l (⟨"java/lang/String", "<init>", "([C)V"⟩ : MethodName) (head1 (Jvm.Cond.code (⟨"java/lang/String", "<init>", "([C)V"⟩ : MethodName) jdk_42_method_3_code 2 none :: ws) (⟨5, 2, 11, 74⟩ : Room)) (fun aa_ U => aa_ = #[(.ref x), (.ref b)] ∧ Z.Warmed39 U.vm ∧ U.heap = h0) (fun _ _ _ _ _ => True) (fun _ U o U' => ∃ vV LL, o = .returned vV ∧ Q_in13 Z x b kb u1 u2 c0 c1 c2 zc h0 n0 vV U'.heap LL ∧ FrameEnd U o U' LL (⟨5, 2, 11, 74⟩ : Room).cells (⟨5, 2, 11, 74⟩ : Room).slots) := by
  refine MetFree.of_bodySF (plainFor_of_name pn_1) hisR ?_
  intro pP eE sS mM args below meth cC s₁ Bd hml0 hP hK
  obtain ⟨rfl, hZ, hh⟩ := hP
  have hx := Bd.exec
  have hby := Bd.bytes
  have hml : cC.maxLocals = 2 := hml0
  have hown : sS.vm.findClass "java/lang/String" = some mM.cls := findClass_of_methodNamed Bd.named
  have hnm := (name_of_methodNamed Bd.named Bd.method).1
  have X0 : Stand pP l eE (⟨5, 2, 11, 74⟩ : Room) sS mM #[(.ref x), (.ref b)] below meth cC s₁ [] 0 0 := Stand.of_body Bd
  have e0 : s₁.heap = h0 := by rw [← hh, Bd.state]; rfl
  have N0 := Fr.nil n0
  have pre0 : ∀ tg, Steps pP.tables eE below (s₁.setTop (mkF mM 0 #[.val (.ref x), .val (.ref b)] [])) tg → Steps pP.tables eE below (s₁.setTop (entryFrame mM #[(.ref x), (.ref b)] 2)) tg := fun tg kg => castTop (ef_in13 mM x b) kg
  have K0 : Keep h0 h0 [x] := Keep.refl _ _
  obtain ⟨cl1, Ar1, -, S1, Nn1, -, -⟩ := id V_b
  obtain ⟨_, _, ⟨T2, L2, k2, n2⟩, -, X2, ⟨Lc2, hQ2, l2, y2, z2⟩, st2⟩ := X0.specialBack hx (y := (⟨"java/lang/String", "<init>", "([CIILjava/lang/Void;)V"⟩ : MethodName)) rfl hown (mvT hZ (w_13 hw)) (mvT hZ (w_14 hw)) (mvT hZ (w_16 hw)) (by decide) (backOf (W := 0) (rm_in43 l Z a0 hw [] x b kb u1 u2 c0 c1 c2 zc h0 n0 O0 E_x F_x_value F_x_coder g_x V_b (hp5 : (own_fi ([c0, c1, c2] : List Int32)) < 3) (hp6 : ∀ c ∈ ([c0, c1, c2] : List Int32), ¬ c < 0 ∧ ¬ (65535 : Int32) < c) S__assertionsDisabled S_HI_BYTE_SHIFT S_LO_BYTE_SHIFT S_COMPACT_STRINGS hp11) hZ (w_16 hw) (w_9 hw) (by decide) (by decide)) (g := (mkF mM 6 #[.val (.ref x), .val (.ref b)] [.null, (.int 3), (.int 0), (.ref b), (.ref x)])) rfl (by rw [hml]; rfl) (Steps.refl _) (a := x) (argsL := [(.ref b), (.int 0), (.int 3), .null]) (rest := []) (lenOf pd_16 rfl) rfl (by show 2 * 0 + _ ≤ _; exact Nat.le_of_eq rfl) (hb hby dj42_3_6) (fun _ _ => ⟨rfl, e0, (by decide : 0 + 2 ≤ _), (by decide : 0 + 11 ≤ _)⟩)
  dsimp only [Pt.U, Pt.locs, Pt.cells, Pt.slots] at X2 l2 y2 z2 st2 hQ2
  subst l2 y2 z2
  obtain ⟨t_2, k_2, rfl, Nq2, Kq2, q2_0, q2_1, q2_2, q2_3, q2_4⟩ := hQ2
  have N2 := Fr.app N0 Nq2
  have g_t_2 : n0 ≤ t_2 := Nat.le_trans (own_osz O0) q2_3
  have sz_t_2 : h0.size ≤ t_2 := Nat.le_trans K0.1 q2_3
  have K3 : Keep h0 T2.heap [x] := K0.trans Kq2 (allS (Or.inl (List.mem_of_getElem? (i := 0) rfl)) all0)
  obtain ⟨fs, hr, hrun, hended, hW, hsame⟩ := X2.leave (v := none) (fun _ => rfl)
  refine ⟨_, _, pre0 _ ?_, hrun, hended, _, _, rfl, ?_, ⟨_, rfl⟩, hW, hsame.mono (by decide) (by decide)⟩
  · refine XS.aloadN X0.here hx rfl (hb hby dj42_3_0) rfl rfl ?_
    show Steps _ _ _ (s₁.setTop (mkF mM 1 #[.val (.ref x), .val (.ref b)] [(.ref x)])) _
    refine XS.aloadN X0.here hx rfl (hb hby dj42_3_1) rfl rfl ?_
    show Steps _ _ _ (s₁.setTop (mkF mM 2 #[.val (.ref x), .val (.ref b)] [(.ref b), (.ref x)])) _
    refine XS.iconst X0.here hx rfl (hb hby dj42_3_2) ?_
    show Steps _ _ _ (s₁.setTop (mkF mM 3 #[.val (.ref x), .val (.ref b)] [(.int 0), (.ref b), (.ref x)])) _
    refine XS.aloadN X0.here hx rfl (hb hby dj42_3_3) rfl rfl ?_
    show Steps _ _ _ (s₁.setTop (mkF mM 4 #[.val (.ref x), .val (.ref b)] [(.ref b), (.int 0), (.ref b), (.ref x)])) _
    refine X0.arraylength hx (by rw [e0]; exact Ar1.1) (State.isArrayOf_alike hZ.alike Ar1.2.1) (g := (mkF mM 4 #[.val (.ref x), .val (.ref b)] [(.ref b), (.int 0), (.ref b), (.ref x)])) rfl rfl (hb hby dj42_3_4) _ ?_
    rw [len_of S1 Nn1]
    show Steps _ _ _ (s₁.setTop (mkF mM 5 #[.val (.ref x), .val (.ref b)] [(.int 3), (.int 0), (.ref b), (.ref x)])) _
    refine XS.aconstNull X0.here hx rfl (hb hby dj42_3_5) ?_
    show Steps _ _ _ (s₁.setTop (mkF mM 6 #[.val (.ref x), .val (.ref b)] [.null, (.int 3), (.int 0), (.ref b), (.ref x)])) _
    refine st2.trans ?_
    show Steps _ _ _ (T2.setTop (mkF mM 9 #[.val (.ref x), .val (.ref b)] [])) _
    exact X2.returnOut hx Bd.returns (hb hby dj42_3_9) hr
  · show Q_in13 Z x b kb u1 u2 c0 c1 c2 zc h0 n0 _ T2.heap _
    exact ⟨t_2, k_2, rfl, N2, K3, q2_0, q2_1, q2_2, sz_t_2, q2_4⟩
theorem ef_in44 (m : MethodId) (x0 : Addr) (x1 : Addr) (x2 : Int32) (x3 : Int32) : entryFrame m #[(.ref x0), (.ref x1), (.int x2), (.int x3), .null] 6 = mkF m 0 #[.val (.ref x0), .val (.ref x1), .val (.int x2), .val (.int x3), .val .null, .unset] [] := by first | (simp [entryFrame, mkF, argsToLocals, Value.category]; done) | rfl
def Q_in44 (Z : State) (x : Addr) (b : Addr) (kb : ClassId) (u1 : Value) (u2 : Value) (c0 : Int32) (c1 : Int32) (c2 : Int32) (c3 : Int32) (zc : Int32) (h0 : Heap) (n0 : Nat) (vV : Option Value) (h : Heap) (LL : List Loc) : Prop := ∃ (t : Addr) (k : ClassId), vV = none ∧ Fr n0 LL ∧ Keep h0 h [x] ∧ Exa Z h x "java/lang/String" ∧ Fld Z h x "java/lang/String" "value" "[B" (.ref t) ∧ Fld Z h x "java/lang/String" "coder" "B" (.int 1) ∧ h0.size ≤ t ∧ Arv Z h t k .byte (Int32.ofNat (2 * 4)) (own_u16 [c0, c1, c2, c3]) (.int 0)
set_option maxRecDepth 65536 in
set_option maxHeartbeats 40000000 in
theorem rm_in44 (l : Launch) (Z : State) (a0 : Array Value) (hw : ∀ d ∈ tables_1, d.before a0 Z = true) (ws : List Jvm.Cond) (x : Addr) (b : Addr) (kb : ClassId) (u1 : Value) (u2 : Value) (c0 : Int32) (c1 : Int32) (c2 : Int32) (c3 : Int32) (zc : Int32) (h0 : Heap) (n0 : Nat) (O0 : Old Z n0 h0) (E_x : Exa Z h0 x "java/lang/String") (F_x_value : Fld Z h0 x "java/lang/String" "value" "[B" u1) (F_x_coder : Fld Z h0 x "java/lang/String" "coder" "B" u2) (g_x : n0 ≤ x) (V_b : Arv Z h0 b kb .char (4 : Int32) [(.int c0), (.int c1), (.int c2), (.int c3)] (.int 0)) (hp5 : ((own_fi ([c0, c1, c2, c3] : List Int32)) < 4)) (hp6 : (∀ c ∈ ([c0, c1, c2, c3] : List Int32), ¬ c < 0 ∧ ¬ (65535 : Int32) < c)) (S__assertionsDisabled : Sta Z Z.heap "java/lang/StringUTF16" "$assertionsDisabled" "Z" (.int 1)) (S_HI_BYTE_SHIFT : Sta Z Z.heap "java/lang/StringUTF16" "HI_BYTE_SHIFT" "I" (.int 0)) (S_LO_BYTE_SHIFT : Sta Z Z.heap "java/lang/StringUTF16" "LO_BYTE_SHIFT" "I" (.int 8)) (S_COMPACT_STRINGS : Sta Z Z.heap "java/lang/String" "COMPACT_STRINGS" "Z" (.int zc)) (hp11 : (¬ (zc = (0 : Int32)))) :
    MetFree l (⟨"java/lang/String", "<init>", "([CIILjava/lang/Void;)V"⟩ : MethodName) (head1 (Jvm.Cond.code (⟨"java/lang/String", "<init>", "([CIILjava/lang/Void;)V"⟩ : MethodName) jdk_42_method_149_code 6 none :: ws) (⟨4, 2, 12, 57⟩ : Room)) (fun aa_ U => aa_ = #[(.ref x), (.ref b), (.int 0), (.int 4), .null] ∧ Z.Warmed39 U.vm ∧ U.heap = h0) (fun _ _ _ _ _ => True) (fun _ U o U' => ∃ vV LL, o = .returned vV ∧ Q_in44 Z x b kb u1 u2 c0 c1 c2 c3 zc h0 n0 vV U'.heap LL ∧ FrameEnd U o U' LL (⟨4, 2, 12, 57⟩ : Room).cells (⟨4, 2, 12, 57⟩ : Room).slots) := by
  refine MetFree.of_bodySF (plainFor_of_name pn_1) hisR ?_
  intro pP eE sS mM args below meth cC s₁ Bd hml0 hP hK
  obtain ⟨rfl, hZ, hh⟩ := hP
  have hx := Bd.exec
  have hby := Bd.bytes
  have hml : cC.maxLocals = 6 := hml0
  have hown : sS.vm.findClass "java/lang/String" = some mM.cls := findClass_of_methodNamed Bd.named
  have hnm := (name_of_methodNamed Bd.named Bd.method).1
  have X0 : Stand pP l eE (⟨4, 2, 12, 57⟩ : Room) sS mM #[(.ref x), (.ref b), (.int 0), (.int 4), .null] below meth cC s₁ [] 0 0 := Stand.of_body Bd
  have e0 : s₁.heap = h0 := by rw [← hh, Bd.state]; rfl
  have N0 := Fr.nil n0
  have pre0 : ∀ tg, Steps pP.tables eE below (s₁.setTop (mkF mM 0 #[.val (.ref x), .val (.ref b), .val (.int 0), .val (.int 4), .val .null, .unset] [])) tg → Steps pP.tables eE below (s₁.setTop (entryFrame mM #[(.ref x), (.ref b), (.int 0), (.int 4), .null] 6)) tg := fun tg kg => castTop (ef_in44 mM x b (0 : Int32) (4 : Int32)) kg
  have K0 : Keep h0 h0 [x] := Keep.refl _ _
  obtain ⟨T1, X1, e1, st1⟩ := initO X0 hx hZ hown (w_17 hw) (w_18 hw) (w_19 hw) e0 (g := (mkF mM 1 #[.val (.ref x), .val (.ref b), .val (.int 0), .val (.int 4), .val .null, .unset] [(.ref x)])) rfl (by rw [hml]; rfl) rfl (hb hby dj42_149_1) (by decide) (W := 0) (by show 2 * 0 + _ ≤ _; exact Nat.le_of_eq rfl) (by decide)
  obtain ⟨T2, X2, e2, st2⟩ := getS2 X1 hx hZ hown (host := "") (Or.inl (w_47 hw)) Via.refl e1 (Sta.ext (O0).2 S_COMPACT_STRINGS) (g := (mkF mM 27 #[.val (.ref x), .val (.ref b), .val (.int 0), .val (.int 4), .val .null, .unset] [])) rfl (hb hby dj42_149_27)
  obtain ⟨_, _, ⟨T3, L3, k3, n3⟩, -, X3, ⟨Lc3, hQ3, l3, y3, z3⟩, st3⟩ := Jvm.LawKit.callS X2 hx (y := (⟨"java/lang/StringUTF16", "compress", "([CII)[B"⟩ : MethodName)) hown (mvT hZ (w_72 hw)) (mvT hZ (w_73 hw)) (mvT hZ (w_74 hw)) (mvT hZ (w_75 hw)) (by decide) (backOf (W := 0) (rm_cp4 l Z a0 hw [] b kb c0 c1 c2 c3 h0 n0 O0 V_b (hp5 : (own_fi ([c0, c1, c2, c3] : List Int32)) < 4) (hp6 : ∀ c ∈ ([c0, c1, c2, c3] : List Int32), ¬ c < 0 ∧ ¬ (65535 : Int32) < c) S__assertionsDisabled S_HI_BYTE_SHIFT S_LO_BYTE_SHIFT) hZ (w_75 hw) (w_74 hw) (by decide) (by decide)) (g := (mkF mM 36 #[.val (.ref x), .val (.ref b), .val (.int 0), .val (.int 4), .val .null, .unset] [(.int 4), (.int 0), (.ref b)])) rfl (by rw [hml]; rfl) (argsL := [(.ref b), (.int 0), (.int 4)]) (rest := []) (lenOf pd_14 rfl) rfl (by show 2 * 0 + _ ≤ _; exact Nat.le_of_eq rfl) (hb hby dj42_149_36) (fun _ _ => ⟨rfl, e2, (by decide : 0 + 2 ≤ _), (by decide : 0 + 12 ≤ _)⟩)
  dsimp only [Pt.U, Pt.locs, Pt.cells, Pt.slots] at X3 l3 y3 z3 st3 hQ3
  subst l3 y3 z3
  obtain ⟨a_3, ka_3, rfl, Nq3, Kq3, q3_0, q3_1⟩ := hQ3
  have N3 := Fr.app N0 Nq3
  have g_a_3 : n0 ≤ a_3 := Nat.le_trans (own_osz O0) q3_0
  have sz_a_3 : h0.size ≤ a_3 := Nat.le_trans K0.1 q3_0
  have K4 : Keep h0 T3.heap [x] := K0.trans Kq3 all0
  have f5 := (O0.keep Kq3 all0)
  obtain ⟨_, _, ⟨T6, L6, k6, n6⟩, -, X6, ⟨Lc6, hQ6, l6, y6, z6⟩, st6⟩ := Jvm.LawKit.callS X3 hx (y := (⟨"java/lang/StringUTF16", "coderFromArrayLen", "([BI)B"⟩ : MethodName)) hown (mvT hZ (w_79 hw)) (mvT hZ (w_80 hw)) (mvT hZ (w_74 hw)) (mvT hZ (w_81 hw)) (by decide) (backOf (W := 1) (rm_cfa4 l Z a0 hw [] a_3 ka_3 (own_u16 [c0, c1, c2, c3]) T3.heap n0 f5 q3_1) hZ (w_81 hw) (w_74 hw) (by decide) (by decide)) (g := (mkF mM 45 #[.val (.ref x), .val (.ref b), .val (.int 0), .val (.int 4), .val .null, .val (.ref a_3)] [(.int 4), (.ref a_3), (.ref x)])) rfl (by rw [hml]; rfl) (argsL := [(.ref a_3), (.int 4)]) (rest := [(.ref x)]) (lenOf pd_15 rfl) rfl (by show 2 * 0 + _ ≤ _; exact Nat.le_of_eq rfl) (hb hby dj42_149_45) (fun _ _ => ⟨rfl, rfl, (by decide : 2 + 0 ≤ _), (by decide : 12 + 0 ≤ _)⟩)
  dsimp only [Pt.U, Pt.locs, Pt.cells, Pt.slots] at X6 l6 y6 z6 st6 hQ6
  subst l6 y6 z6
  obtain ⟨rfl, rfl, Kq6⟩ := hQ6
  try rw [List.append_nil] at X6
  have f7 := (F_x_coder.keep Kq3 nin0)
  have f8 := (E_x.keep Kq3)
  obtain ⟨T9, h9, X9, e9, W9, st9⟩ := putFN X6 hx hZ hown (w_27 hw) Via.refl Kq6 f7 f8 (Or.inr ⟨(w_23 hw), rfl, hnm⟩) (w_8 hw) (ty := .byte) (v' := (.int (nar .byte (1 : Int32)))) (by decide) rfl (fits_nar_byte _) (g := (mkF mM 48 #[.val (.ref x), .val (.ref b), .val (.int 0), .val (.int 4), .val .null, .val (.ref a_3)] [(.int 1), (.ref x)])) rfl rfl (hb hby dj42_149_48)
  have K10 : Keep h0 h9 [x] := K4.wr W9 (Or.inl (List.mem_of_getElem? (i := 0) rfl))
  have Fw9 : Fld Z h9 x "java/lang/String" "coder" "B" (.int 1) := f7.same W9
  have N9 := Fr.snoc X9 N3 g_x
  have f11 := ((F_x_value.keep Kq3 nin0).other W9 (Or.inr (slot_ne (Or.inr (w_22 hw)) (Or.inr (w_23 hw)) (by decide) (t := (.array .byte)) (t' := .byte) (by decide) (by decide))))
  have f12 := (f8.wr W9)
  obtain ⟨T13, h13, X13, e13, W13, st13⟩ := putF X9 hx hZ hown (host := "") (Or.inl (w_26 hw)) Via.refl e9 f11 f12 (Or.inr ⟨(w_22 hw), rfl, hnm⟩) (w_8 hw) (ty := (.array .byte)) (by decide) rfl rfl (g := (mkF mM 54 #[.val (.ref x), .val (.ref b), .val (.int 0), .val (.int 4), .val .null, .val (.ref a_3)] [(.ref a_3), (.ref x)])) rfl rfl (hb hby dj42_149_54)
  have K14 : Keep h0 h13 [x] := K10.wr W13 (Or.inl (List.mem_of_getElem? (i := 0) rfl))
  have Fw13 : Fld Z h13 x "java/lang/String" "value" "[B" (.ref a_3) := f11.same W13
  have N13 := Fr.snoc X13 N9 g_x
  have f16 := (f12.wr W13)
  have f17 := (Fw9.other W13 (Or.inr (slot_ne (Or.inr (w_23 hw)) (Or.inr (w_22 hw)) (by decide) (t := .byte) (t' := (.array .byte)) (by decide) (by decide))))
  have f18 := ((q3_1.other W9 (Ne.symm (Nat.ne_of_lt (Nat.lt_of_lt_of_le (E_x).lt q3_0)))).other W13 (Ne.symm (Nat.ne_of_lt (Nat.lt_of_lt_of_le (E_x).lt q3_0))))
  obtain ⟨fs, hr, hrun, hended, hW, hsame⟩ := X13.leave (v := none) (fun _ => rfl)
  refine ⟨_, _, pre0 _ ?_, hrun, hended, _, _, rfl, ?_, ⟨_, rfl⟩, hW, hsame.mono (by decide) (by decide)⟩
  · refine XS.aloadN X0.here hx rfl (hb hby dj42_149_0) rfl rfl ?_
    show Steps _ _ _ (s₁.setTop (mkF mM 1 #[.val (.ref x), .val (.ref b), .val (.int 0), .val (.int 4), .val .null, .unset] [(.ref x)])) _
    refine st1 _ ?_
    show Steps _ _ _ (T1.setTop (mkF mM 4 #[.val (.ref x), .val (.ref b), .val (.int 0), .val (.int 4), .val .null, .unset] [])) _
    refine XS.iloadN X1.here hx rfl (hb hby dj42_149_4) rfl ?_
    show Steps _ _ _ (T1.setTop (mkF mM 5 #[.val (.ref x), .val (.ref b), .val (.int 0), .val (.int 4), .val .null, .unset] [(.int 4)])) _
    refine XS.ifYes X1.here hx rfl (pc0 := 5) (pc' := 27) rfl (hb hby dj42_149_5) rfl ((if0 _ _).trans (feq (by decide : ¬ ((4 : Int32) = (0 : Int32)))).2) (by decide) (by decide) ?_
    show Steps _ _ _ (T1.setTop (mkF mM 27 #[.val (.ref x), .val (.ref b), .val (.int 0), .val (.int 4), .val .null, .unset] [])) _
    refine st2 _ ?_
    show Steps _ _ _ (T2.setTop (mkF mM 30 #[.val (.ref x), .val (.ref b), .val (.int 0), .val (.int 4), .val .null, .unset] [(.int zc)])) _
    refine XS.ifNo X2.here hx rfl (hb hby dj42_149_30) rfl ((if0 _ _).trans (feq hp11).1) ?_
    show Steps _ _ _ (T2.setTop (mkF mM 33 #[.val (.ref x), .val (.ref b), .val (.int 0), .val (.int 4), .val .null, .unset] [])) _
    refine XS.aloadN X2.here hx rfl (hb hby dj42_149_33) rfl rfl ?_
    show Steps _ _ _ (T2.setTop (mkF mM 34 #[.val (.ref x), .val (.ref b), .val (.int 0), .val (.int 4), .val .null, .unset] [(.ref b)])) _
    refine XS.iloadN X2.here hx rfl (hb hby dj42_149_34) rfl ?_
    show Steps _ _ _ (T2.setTop (mkF mM 35 #[.val (.ref x), .val (.ref b), .val (.int 0), .val (.int 4), .val .null, .unset] [(.int 0), (.ref b)])) _
    refine XS.iloadN X2.here hx rfl (hb hby dj42_149_35) rfl ?_
    show Steps _ _ _ (T2.setTop (mkF mM 36 #[.val (.ref x), .val (.ref b), .val (.int 0), .val (.int 4), .val .null, .unset] [(.int 4), (.int 0), (.ref b)])) _
    refine st3 _ ?_
    show Steps _ _ _ (T3.setTop (mkF mM 39 #[.val (.ref x), .val (.ref b), .val (.int 0), .val (.int 4), .val .null, .unset] [(.ref a_3)])) _
    refine XS.astore X3.here hx rfl (hb hby dj42_149_39) rfl rfl (l' := #[.val (.ref x), .val (.ref b), .val (.int 0), .val (.int 4), .val .null, .val (.ref a_3)]) rfl ?_
    show Steps _ _ _ (T3.setTop (mkF mM 41 #[.val (.ref x), .val (.ref b), .val (.int 0), .val (.int 4), .val .null, .val (.ref a_3)] [])) _
    refine XS.aloadN X3.here hx rfl (hb hby dj42_149_41) rfl rfl ?_
    show Steps _ _ _ (T3.setTop (mkF mM 42 #[.val (.ref x), .val (.ref b), .val (.int 0), .val (.int 4), .val .null, .val (.ref a_3)] [(.ref x)])) _
    refine XS.aload X3.here hx rfl (hb hby dj42_149_42) rfl rfl ?_
    show Steps _ _ _ (T3.setTop (mkF mM 44 #[.val (.ref x), .val (.ref b), .val (.int 0), .val (.int 4), .val .null, .val (.ref a_3)] [(.ref a_3), (.ref x)])) _
    refine XS.iloadN X3.here hx rfl (hb hby dj42_149_44) rfl ?_
    show Steps _ _ _ (T3.setTop (mkF mM 45 #[.val (.ref x), .val (.ref b), .val (.int 0), .val (.int 4), .val .null, .val (.ref a_3)] [(.int 4), (.ref a_3), (.ref x)])) _
    refine st6 _ ?_
    show Steps _ _ _ (T6.setTop (mkF mM 48 #[.val (.ref x), .val (.ref b), .val (.int 0), .val (.int 4), .val .null, .val (.ref a_3)] [(.int 1), (.ref x)])) _
    refine st9 _ ?_
    show Steps _ _ _ (T9.setTop (mkF mM 51 #[.val (.ref x), .val (.ref b), .val (.int 0), .val (.int 4), .val .null, .val (.ref a_3)] [])) _
    refine XS.aloadN X9.here hx rfl (hb hby dj42_149_51) rfl rfl ?_
    show Steps _ _ _ (T9.setTop (mkF mM 52 #[.val (.ref x), .val (.ref b), .val (.int 0), .val (.int 4), .val .null, .val (.ref a_3)] [(.ref x)])) _
    refine XS.aload X9.here hx rfl (hb hby dj42_149_52) rfl rfl ?_
    show Steps _ _ _ (T9.setTop (mkF mM 54 #[.val (.ref x), .val (.ref b), .val (.int 0), .val (.int 4), .val .null, .val (.ref a_3)] [(.ref a_3), (.ref x)])) _
    refine st13 _ ?_
    show Steps _ _ _ (T13.setTop (mkF mM 57 #[.val (.ref x), .val (.ref b), .val (.int 0), .val (.int 4), .val .null, .val (.ref a_3)] [])) _
    exact X13.returnOut hx Bd.returns (hb hby dj42_149_57) hr
  · show Q_in44 Z x b kb u1 u2 c0 c1 c2 c3 zc h0 n0 _ T13.heap _
    rw [e13]
    exact ⟨a_3, ka_3, rfl, N13, K14, f16, Fw13, f17, sz_a_3, f18⟩
theorem ef_in14 (m : MethodId) (x0 : Addr) (x1 : Addr) : entryFrame m #[(.ref x0), (.ref x1)] 2 = mkF m 0 #[.val (.ref x0), .val (.ref x1)] [] := by first | (simp [entryFrame, mkF, argsToLocals, Value.category]; done) | rfl
def Q_in14 (Z : State) (x : Addr) (b : Addr) (kb : ClassId) (u1 : Value) (u2 : Value) (c0 : Int32) (c1 : Int32) (c2 : Int32) (c3 : Int32) (zc : Int32) (h0 : Heap) (n0 : Nat) (vV : Option Value) (h : Heap) (LL : List Loc) : Prop := ∃ (t : Addr) (k : ClassId), vV = none ∧ Fr n0 LL ∧ Keep h0 h [x] ∧ Exa Z h x "java/lang/String" ∧ Fld Z h x "java/lang/String" "value" "[B" (.ref t) ∧ Fld Z h x "java/lang/String" "coder" "B" (.int 1) ∧ h0.size ≤ t ∧ Arv Z h t k .byte (Int32.ofNat (2 * 4)) (own_u16 [c0, c1, c2, c3]) (.int 0)
set_option maxRecDepth 65536 in
set_option maxHeartbeats 40000000 in
theorem rm_in14 (l : Launch) (Z : State) (a0 : Array Value) (hw : ∀ d ∈ tables_1, d.before a0 Z = true) (ws : List Jvm.Cond) (x : Addr) (b : Addr) (kb : ClassId) (u1 : Value) (u2 : Value) (c0 : Int32) (c1 : Int32) (c2 : Int32) (c3 : Int32) (zc : Int32) (h0 : Heap) (n0 : Nat) (O0 : Old Z n0 h0) (E_x : Exa Z h0 x "java/lang/String") (F_x_value : Fld Z h0 x "java/lang/String" "value" "[B" u1) (F_x_coder : Fld Z h0 x "java/lang/String" "coder" "B" u2) (g_x : n0 ≤ x) (V_b : Arv Z h0 b kb .char (4 : Int32) [(.int c0), (.int c1), (.int c2), (.int c3)] (.int 0)) (hp5 : ((own_fi ([c0, c1, c2, c3] : List Int32)) < 4)) (hp6 : (∀ c ∈ ([c0, c1, c2, c3] : List Int32), ¬ c < 0 ∧ ¬ (65535 : Int32) < c)) (S__assertionsDisabled : Sta Z Z.heap "java/lang/StringUTF16" "$assertionsDisabled" "Z" (.int 1)) (S_HI_BYTE_SHIFT : Sta Z Z.heap "java/lang/StringUTF16" "HI_BYTE_SHIFT" "I" (.int 0)) (S_LO_BYTE_SHIFT : Sta Z Z.heap "java/lang/StringUTF16" "LO_BYTE_SHIFT" "I" (.int 8)) (S_COMPACT_STRINGS : Sta Z Z.heap "java/lang/String" "COMPACT_STRINGS" "Z" (.int zc)) (hp11 : (¬ (zc = (0 : Int32)))) :
    MetFree l (⟨"java/lang/String", "<init>", "([C)V"⟩ : MethodName) (head1 (Jvm.Cond.code (⟨"java/lang/String", "<init>", "([C)V"⟩ : MethodName) jdk_42_method_3_code 2 none :: ws) (⟨5, 2, 12, 74⟩ : Room)) (fun aa_ U => aa_ = #[(.ref x), (.ref b)] ∧ Z.Warmed39 U.vm ∧ U.heap = h0) (fun _ _ _ _ _ => True) (fun _ U o U' => ∃ vV LL, o = .returned vV ∧ Q_in14 Z x b kb u1 u2 c0 c1 c2 c3 zc h0 n0 vV U'.heap LL ∧ FrameEnd U o U' LL (⟨5, 2, 12, 74⟩ : Room).cells (⟨5, 2, 12, 74⟩ : Room).slots) := by
  refine MetFree.of_bodySF (plainFor_of_name pn_1) hisR ?_
  intro pP eE sS mM args below meth cC s₁ Bd hml0 hP hK
  obtain ⟨rfl, hZ, hh⟩ := hP
  have hx := Bd.exec
  have hby := Bd.bytes
  have hml : cC.maxLocals = 2 := hml0
  have hown : sS.vm.findClass "java/lang/String" = some mM.cls := findClass_of_methodNamed Bd.named
  have hnm := (name_of_methodNamed Bd.named Bd.method).1
  have X0 : Stand pP l eE (⟨5, 2, 12, 74⟩ : Room) sS mM #[(.ref x), (.ref b)] below meth cC s₁ [] 0 0 := Stand.of_body Bd
  have e0 : s₁.heap = h0 := by rw [← hh, Bd.state]; rfl
  have N0 := Fr.nil n0
  have pre0 : ∀ tg, Steps pP.tables eE below (s₁.setTop (mkF mM 0 #[.val (.ref x), .val (.ref b)] [])) tg → Steps pP.tables eE below (s₁.setTop (entryFrame mM #[(.ref x), (.ref b)] 2)) tg := fun tg kg => castTop (ef_in14 mM x b) kg
  have K0 : Keep h0 h0 [x] := Keep.refl _ _
  obtain ⟨cl1, Ar1, -, S1, Nn1, -, -⟩ := id V_b
  obtain ⟨_, _, ⟨T2, L2, k2, n2⟩, -, X2, ⟨Lc2, hQ2, l2, y2, z2⟩, st2⟩ := X0.specialBack hx (y := (⟨"java/lang/String", "<init>", "([CIILjava/lang/Void;)V"⟩ : MethodName)) rfl hown (mvT hZ (w_13 hw)) (mvT hZ (w_14 hw)) (mvT hZ (w_16 hw)) (by decide) (backOf (W := 0) (rm_in44 l Z a0 hw [] x b kb u1 u2 c0 c1 c2 c3 zc h0 n0 O0 E_x F_x_value F_x_coder g_x V_b (hp5 : (own_fi ([c0, c1, c2, c3] : List Int32)) < 4) (hp6 : ∀ c ∈ ([c0, c1, c2, c3] : List Int32), ¬ c < 0 ∧ ¬ (65535 : Int32) < c) S__assertionsDisabled S_HI_BYTE_SHIFT S_LO_BYTE_SHIFT S_COMPACT_STRINGS hp11) hZ (w_16 hw) (w_9 hw) (by decide) (by decide)) (g := (mkF mM 6 #[.val (.ref x), .val (.ref b)] [.null, (.int 4), (.int 0), (.ref b), (.ref x)])) rfl (by rw [hml]; rfl) (Steps.refl _) (a := x) (argsL := [(.ref b), (.int 0), (.int 4), .null]) (rest := []) (lenOf pd_16 rfl) rfl (by show 2 * 0 + _ ≤ _; exact Nat.le_of_eq rfl) (hb hby dj42_3_6) (fun _ _ => ⟨rfl, e0, (by decide : 0 + 2 ≤ _), (by decide : 0 + 12 ≤ _)⟩)
  dsimp only [Pt.U, Pt.locs, Pt.cells, Pt.slots] at X2 l2 y2 z2 st2 hQ2
  subst l2 y2 z2
  obtain ⟨t_2, k_2, rfl, Nq2, Kq2, q2_0, q2_1, q2_2, q2_3, q2_4⟩ := hQ2
  have N2 := Fr.app N0 Nq2
  have g_t_2 : n0 ≤ t_2 := Nat.le_trans (own_osz O0) q2_3
  have sz_t_2 : h0.size ≤ t_2 := Nat.le_trans K0.1 q2_3
  have K3 : Keep h0 T2.heap [x] := K0.trans Kq2 (allS (Or.inl (List.mem_of_getElem? (i := 0) rfl)) all0)
  obtain ⟨fs, hr, hrun, hended, hW, hsame⟩ := X2.leave (v := none) (fun _ => rfl)
  refine ⟨_, _, pre0 _ ?_, hrun, hended, _, _, rfl, ?_, ⟨_, rfl⟩, hW, hsame.mono (by decide) (by decide)⟩
  · refine XS.aloadN X0.here hx rfl (hb hby dj42_3_0) rfl rfl ?_
    show Steps _ _ _ (s₁.setTop (mkF mM 1 #[.val (.ref x), .val (.ref b)] [(.ref x)])) _
    refine XS.aloadN X0.here hx rfl (hb hby dj42_3_1) rfl rfl ?_
    show Steps _ _ _ (s₁.setTop (mkF mM 2 #[.val (.ref x), .val (.ref b)] [(.ref b), (.ref x)])) _
    refine XS.iconst X0.here hx rfl (hb hby dj42_3_2) ?_
    show Steps _ _ _ (s₁.setTop (mkF mM 3 #[.val (.ref x), .val (.ref b)] [(.int 0), (.ref b), (.ref x)])) _
    refine XS.aloadN X0.here hx rfl (hb hby dj42_3_3) rfl rfl ?_
    show Steps _ _ _ (s₁.setTop (mkF mM 4 #[.val (.ref x), .val (.ref b)] [(.ref b), (.int 0), (.ref b), (.ref x)])) _
    refine X0.arraylength hx (by rw [e0]; exact Ar1.1) (State.isArrayOf_alike hZ.alike Ar1.2.1) (g := (mkF mM 4 #[.val (.ref x), .val (.ref b)] [(.ref b), (.int 0), (.ref b), (.ref x)])) rfl rfl (hb hby dj42_3_4) _ ?_
    rw [len_of S1 Nn1]
    show Steps _ _ _ (s₁.setTop (mkF mM 5 #[.val (.ref x), .val (.ref b)] [(.int 4), (.int 0), (.ref b), (.ref x)])) _
    refine XS.aconstNull X0.here hx rfl (hb hby dj42_3_5) ?_
    show Steps _ _ _ (s₁.setTop (mkF mM 6 #[.val (.ref x), .val (.ref b)] [.null, (.int 4), (.int 0), (.ref b), (.ref x)])) _
    refine st2.trans ?_
    show Steps _ _ _ (T2.setTop (mkF mM 9 #[.val (.ref x), .val (.ref b)] [])) _
    exact X2.returnOut hx Bd.returns (hb hby dj42_3_9) hr
  · show Q_in14 Z x b kb u1 u2 c0 c1 c2 c3 zc h0 n0 _ T2.heap _
    exact ⟨t_2, k_2, rfl, N2, K3, q2_0, q2_1, q2_2, sz_t_2, q2_4⟩
theorem ef_draw (m : MethodId) (x0 : Int32) : entryFrame m #[(.int x0)] 2 = mkF m 0 #[.val (.int x0), .unset] [] := by first | (simp [entryFrame, mkF, argsToLocals, Value.category]; done) | rfl
def Q_draw (Z : State) (p : Int32) (h0 : Heap) (n0 : Nat) (vV : Option Value) (h : Heap) (LL : List Loc) : Prop := vV = some (.int (own_dw p)) ∧ LL = [] ∧ h = h0
set_option maxRecDepth 65536 in
set_option maxHeartbeats 40000000 in
theorem rm_draw (l : Launch) (Z : State) (a0 : Array Value) (hw : ∀ d ∈ tables_1, d.before a0 Z = true) (ws : List Jvm.Cond) (p : Int32) (h0 : Heap) (n0 : Nat) (O0 : Old Z n0 h0) :
    MetFree l (⟨"com/example/ullr/ullr/files/GlobIsGlobPinLaw", "draw", "(I)C"⟩ : MethodName) (head1 (Jvm.Cond.code (⟨"com/example/ullr/ullr/files/GlobIsGlobPinLaw", "draw", "(I)C"⟩ : MethodName) method_3_code 2 (some .char) :: ws) (⟨0, 0, 0, 0⟩ : Room)) (fun aa_ U => aa_ = #[(.int p)] ∧ Z.Warmed39 U.vm ∧ U.heap = h0) (fun _ _ _ _ _ => True) (fun _ U o U' => ∃ vV LL, o = .returned vV ∧ Q_draw Z p h0 n0 vV U'.heap LL ∧ FrameEnd U o U' LL (⟨0, 0, 0, 0⟩ : Room).cells (⟨0, 0, 0, 0⟩ : Room).slots) := by
  refine MetFree.of_bodySF (plainFor_of_name pn_4) hisR ?_
  intro pP eE sS mM args below meth cC s₁ Bd hml0 hP hK
  obtain ⟨rfl, hZ, hh⟩ := hP
  have hx := Bd.exec
  have hby := Bd.bytes
  have hml : cC.maxLocals = 2 := hml0
  have hown : sS.vm.findClass "com/example/ullr/ullr/files/GlobIsGlobPinLaw" = some mM.cls := findClass_of_methodNamed Bd.named
  have hnm := (name_of_methodNamed Bd.named Bd.method).1
  have X0 : Stand pP l eE (⟨0, 0, 0, 0⟩ : Room) sS mM #[(.int p)] below meth cC s₁ [] 0 0 := Stand.of_body Bd
  have e0 : s₁.heap = h0 := by rw [← hh, Bd.state]; rfl
  have N0 := Fr.nil n0
  have pre0 : ∀ tg, Steps pP.tables eE below (s₁.setTop (mkF mM 0 #[.val (.int p), .unset] [])) tg → Steps pP.tables eE below (s₁.setTop (entryFrame mM #[(.int p)] 2)) tg := fun tg kg => castTop (ef_draw mM p) kg
  have pre2 : ∀ tg, Steps pP.tables eE below (s₁.setTop (mkF mM 5 #[.val (.int p), .val (.int (p &&& (3 : Int32)))] [(.int (p &&& (3 : Int32)))])) tg → Steps pP.tables eE below (s₁.setTop (entryFrame mM #[(.int p)] 2)) tg := fun tg kg => pre0 tg (by
    refine XS.iloadN X0.here hx rfl (hb hby d_method_3_0) rfl ?_
    show Steps _ _ _ (s₁.setTop (mkF mM 1 #[.val (.int p), .unset] [(.int p)])) _
    refine XS.iconst X0.here hx rfl (hb hby d_method_3_1) ?_
    show Steps _ _ _ (s₁.setTop (mkF mM 2 #[.val (.int p), .unset] [(.int 3), (.int p)])) _
    refine XS.iand X0.here hx rfl (hb hby d_method_3_2) rfl ?_
    show Steps _ _ _ (s₁.setTop (mkF mM 3 #[.val (.int p), .unset] [(.int (p &&& (3 : Int32)))])) _
    refine XS.istoreN X0.here hx rfl (hb hby d_method_3_3) rfl (l' := #[.val (.int p), .val (.int (p &&& (3 : Int32)))]) rfl ?_
    show Steps _ _ _ (s₁.setTop (mkF mM 4 #[.val (.int p), .val (.int (p &&& (3 : Int32)))] [])) _
    refine XS.iloadN X0.here hx rfl (hb hby d_method_3_4) rfl ?_
    exact kg)
  by_cases hc1 : (p &&& (3 : Int32)) = (0 : Int32)
  · obtain ⟨fs, hr, hrun, hended, hW, hsame⟩ := X0.leave (v := some (.int (nar .char (42 : Int32)))) (fun h => by rw [Bd.returns] at h; cases h)
    refine ⟨_, _, pre2 _ ?_, hrun, hended, _, _, rfl, ?_, ⟨_, rfl⟩, hW, hsame.mono (by decide) (by decide)⟩
    · refine XS.ifNo X0.here hx rfl (hb hby d_method_3_5) rfl ((if0 _ _).trans (teq hc1).2) ?_
      show Steps _ _ _ (s₁.setTop (mkF mM 8 #[.val (.int p), .val (.int (p &&& (3 : Int32)))] [])) _
      refine XS.bipush X0.here hx rfl (hb hby d_method_3_8) ?_
      show Steps _ _ _ (s₁.setTop (mkF mM 10 #[.val (.int p), .val (.int (p &&& (3 : Int32)))] [(.int 42)])) _
      exact retN X0 hx (t := .char) Bd.returns (by simp) (hb hby d_method_3_10) hr
    · show Q_draw Z p h0 n0 _ s₁.heap _
      rw [e0]
      exact ⟨(by rw [own_dw, if_pos hc1] <;> rfl), rfl, rfl⟩
  · have pre5 : ∀ tg, Steps pP.tables eE below (s₁.setTop (mkF mM 13 #[.val (.int p), .val (.int (p &&& (3 : Int32)))] [(.int 1), (.int (p &&& (3 : Int32)))])) tg → Steps pP.tables eE below (s₁.setTop (entryFrame mM #[(.int p)] 2)) tg := fun tg kg => pre2 tg (by
      refine XS.ifYes X0.here hx rfl (pc0 := 5) (pc' := 11) rfl (hb hby d_method_3_5) rfl ((if0 _ _).trans (feq hc1).2) (by decide) (by decide) ?_
      show Steps _ _ _ (s₁.setTop (mkF mM 11 #[.val (.int p), .val (.int (p &&& (3 : Int32)))] [])) _
      refine XS.iloadN X0.here hx rfl (hb hby d_method_3_11) rfl ?_
      show Steps _ _ _ (s₁.setTop (mkF mM 12 #[.val (.int p), .val (.int (p &&& (3 : Int32)))] [(.int (p &&& (3 : Int32)))])) _
      refine XS.iconst X0.here hx rfl (hb hby d_method_3_12) ?_
      exact kg)
    by_cases hc4 : (p &&& (3 : Int32)) = (1 : Int32)
    · obtain ⟨fs, hr, hrun, hended, hW, hsame⟩ := X0.leave (v := some (.int (nar .char (63 : Int32)))) (fun h => by rw [Bd.returns] at h; cases h)
      refine ⟨_, _, pre5 _ ?_, hrun, hended, _, _, rfl, ?_, ⟨_, rfl⟩, hW, hsame.mono (by decide) (by decide)⟩
      · refine XS.icmpNo X0.here hx rfl (hb hby d_method_3_13) rfl (teq hc4).2 ?_
        show Steps _ _ _ (s₁.setTop (mkF mM 16 #[.val (.int p), .val (.int (p &&& (3 : Int32)))] [])) _
        refine XS.bipush X0.here hx rfl (hb hby d_method_3_16) ?_
        show Steps _ _ _ (s₁.setTop (mkF mM 18 #[.val (.int p), .val (.int (p &&& (3 : Int32)))] [(.int 63)])) _
        exact retN X0 hx (t := .char) Bd.returns (by simp) (hb hby d_method_3_18) hr
      · show Q_draw Z p h0 n0 _ s₁.heap _
        rw [e0]
        exact ⟨(by rw [own_dw, if_neg hc1, if_pos hc4] <;> rfl), rfl, rfl⟩
    · obtain ⟨fs, hr, hrun, hended, hW, hsame⟩ := X0.leave (v := some (.int (nar .char ((((p.toUInt32 >>> ((2 : Int32) &&& 31).toUInt32).toInt32) &&& (65535 : Int32)).toUInt32.toUInt16.toUInt32.toInt32)))) (fun h => by rw [Bd.returns] at h; cases h)
      refine ⟨_, _, pre5 _ ?_, hrun, hended, _, _, rfl, ?_, ⟨_, rfl⟩, hW, hsame.mono (by decide) (by decide)⟩
      · refine XS.icmpYes X0.here hx rfl (pc0 := 13) (pc' := 19) rfl (hb hby d_method_3_13) rfl (feq hc4).2 (by decide) (by decide) ?_
        show Steps _ _ _ (s₁.setTop (mkF mM 19 #[.val (.int p), .val (.int (p &&& (3 : Int32)))] [])) _
        refine XS.iloadN X0.here hx rfl (hb hby d_method_3_19) rfl ?_
        show Steps _ _ _ (s₁.setTop (mkF mM 20 #[.val (.int p), .val (.int (p &&& (3 : Int32)))] [(.int p)])) _
        refine XS.iconst X0.here hx rfl (hb hby d_method_3_20) ?_
        show Steps _ _ _ (s₁.setTop (mkF mM 21 #[.val (.int p), .val (.int (p &&& (3 : Int32)))] [(.int 2), (.int p)])) _
        refine XS.iushr X0.here hx rfl (hb hby d_method_3_21) rfl ?_
        show Steps _ _ _ (s₁.setTop (mkF mM 22 #[.val (.int p), .val (.int (p &&& (3 : Int32)))] [(.int ((p.toUInt32 >>> ((2 : Int32) &&& 31).toUInt32).toInt32))])) _
        refine X0.ldcInt hx hown (mvT hZ (w_5 hw)) (g := (mkF mM 22 #[.val (.int p), .val (.int (p &&& (3 : Int32)))] [(.int ((p.toUInt32 >>> ((2 : Int32) &&& 31).toUInt32).toInt32))])) rfl (hb hby d_method_3_22) _ ?_
        show Steps _ _ _ (s₁.setTop (mkF mM 24 #[.val (.int p), .val (.int (p &&& (3 : Int32)))] [(.int 65535), (.int ((p.toUInt32 >>> ((2 : Int32) &&& 31).toUInt32).toInt32))])) _
        refine XS.iand X0.here hx rfl (hb hby d_method_3_24) rfl ?_
        show Steps _ _ _ (s₁.setTop (mkF mM 25 #[.val (.int p), .val (.int (p &&& (3 : Int32)))] [(.int (((p.toUInt32 >>> ((2 : Int32) &&& 31).toUInt32).toInt32) &&& (65535 : Int32)))])) _
        refine XS.i2c X0.here hx rfl (hb hby d_method_3_25) rfl ?_
        show Steps _ _ _ (s₁.setTop (mkF mM 26 #[.val (.int p), .val (.int (p &&& (3 : Int32)))] [(.int ((((p.toUInt32 >>> ((2 : Int32) &&& 31).toUInt32).toInt32) &&& (65535 : Int32)).toUInt32.toUInt16.toUInt32.toInt32))])) _
        exact retN X0 hx (t := .char) Bd.returns (by simp) (hb hby d_method_3_26) hr
      · show Q_draw Z p h0 n0 _ s₁.heap _
        rw [e0]
        exact ⟨(by rw [own_dw, if_neg hc1, if_neg hc4, own_nc16 (own_i2cb _)]), rfl, rfl⟩
theorem ef_wild (m : MethodId) (x0 : Int32) : entryFrame m #[(.int x0)] 1 = mkF m 0 #[.val (.int x0)] [] := by first | (simp [entryFrame, mkF, argsToLocals, Value.category]; done) | rfl
def Q_wild (Z : State) (c : Int32) (h0 : Heap) (n0 : Nat) (vV : Option Value) (h : Heap) (LL : List Loc) : Prop := vV = some (.int (own_wild c)) ∧ LL = [] ∧ h = h0
set_option maxRecDepth 65536 in
set_option maxHeartbeats 40000000 in
theorem rm_wild (l : Launch) (Z : State) (a0 : Array Value) (hw : ∀ d ∈ tables_1, d.before a0 Z = true) (ws : List Jvm.Cond) (c : Int32) (h0 : Heap) (n0 : Nat) (O0 : Old Z n0 h0) :
    MetFree l (⟨"com/example/ullr/ullr/files/GlobIsGlobPinLaw", "wild", "(C)Z"⟩ : MethodName) (head1 (Jvm.Cond.code (⟨"com/example/ullr/ullr/files/GlobIsGlobPinLaw", "wild", "(C)Z"⟩ : MethodName) method_4_code 1 (some .boolean) :: ws) (⟨0, 0, 0, 0⟩ : Room)) (fun aa_ U => aa_ = #[(.int c)] ∧ Z.Warmed39 U.vm ∧ U.heap = h0) (fun _ _ _ _ _ => True) (fun _ U o U' => ∃ vV LL, o = .returned vV ∧ Q_wild Z c h0 n0 vV U'.heap LL ∧ FrameEnd U o U' LL (⟨0, 0, 0, 0⟩ : Room).cells (⟨0, 0, 0, 0⟩ : Room).slots) := by
  refine MetFree.of_bodySF (plainFor_of_name pn_4) hisR ?_
  intro pP eE sS mM args below meth cC s₁ Bd hml0 hP hK
  obtain ⟨rfl, hZ, hh⟩ := hP
  have hx := Bd.exec
  have hby := Bd.bytes
  have hml : cC.maxLocals = 1 := hml0
  have hown : sS.vm.findClass "com/example/ullr/ullr/files/GlobIsGlobPinLaw" = some mM.cls := findClass_of_methodNamed Bd.named
  have hnm := (name_of_methodNamed Bd.named Bd.method).1
  have X0 : Stand pP l eE (⟨0, 0, 0, 0⟩ : Room) sS mM #[(.int c)] below meth cC s₁ [] 0 0 := Stand.of_body Bd
  have e0 : s₁.heap = h0 := by rw [← hh, Bd.state]; rfl
  have N0 := Fr.nil n0
  have pre0 : ∀ tg, Steps pP.tables eE below (s₁.setTop (mkF mM 0 #[.val (.int c)] [])) tg → Steps pP.tables eE below (s₁.setTop (entryFrame mM #[(.int c)] 1)) tg := fun tg kg => castTop (ef_wild mM c) kg
  have pre2 : ∀ tg, Steps pP.tables eE below (s₁.setTop (mkF mM 3 #[.val (.int c)] [(.int 42), (.int c)])) tg → Steps pP.tables eE below (s₁.setTop (entryFrame mM #[(.int c)] 1)) tg := fun tg kg => pre0 tg (by
    refine XS.iloadN X0.here hx rfl (hb hby d_method_4_0) rfl ?_
    show Steps _ _ _ (s₁.setTop (mkF mM 1 #[.val (.int c)] [(.int c)])) _
    refine XS.bipush X0.here hx rfl (hb hby d_method_4_1) ?_
    exact kg)
  by_cases hc1 : c = (42 : Int32)
  · obtain ⟨fs, hr, hrun, hended, hW, hsame⟩ := X0.leave (v := some (.int 1)) (fun h => by rw [Bd.returns] at h; cases h)
    refine ⟨_, _, pre2 _ ?_, hrun, hended, _, _, rfl, ?_, ⟨_, rfl⟩, hW, hsame.mono (by decide) (by decide)⟩
    · refine XS.icmpYes X0.here hx rfl (pc0 := 3) (pc' := 12) rfl (hb hby d_method_4_3) rfl (teq hc1).1 (by decide) (by decide) ?_
      show Steps _ _ _ (s₁.setTop (mkF mM 12 #[.val (.int c)] [])) _
      refine XS.iconst X0.here hx rfl (hb hby d_method_4_12) ?_
      show Steps _ _ _ (s₁.setTop (mkF mM 13 #[.val (.int c)] [(.int 1)])) _
      refine XS.goto X0.here hx rfl (pc0 := 13) (pc' := 17) rfl (hb hby d_method_4_13) (by decide) (by decide) ?_
      show Steps _ _ _ (s₁.setTop (mkF mM 17 #[.val (.int c)] [(.int 1)])) _
      exact retN X0 hx (t := .boolean) Bd.returns (by simp) (hb hby d_method_4_17) hr
    · show Q_wild Z c h0 n0 _ s₁.heap _
      rw [e0]
      exact ⟨(by rw [own_wild, if_pos hc1]), rfl, rfl⟩
  · have pre5 : ∀ tg, Steps pP.tables eE below (s₁.setTop (mkF mM 9 #[.val (.int c)] [(.int 63), (.int c)])) tg → Steps pP.tables eE below (s₁.setTop (entryFrame mM #[(.int c)] 1)) tg := fun tg kg => pre2 tg (by
      refine XS.icmpNo X0.here hx rfl (hb hby d_method_4_3) rfl (feq hc1).1 ?_
      show Steps _ _ _ (s₁.setTop (mkF mM 6 #[.val (.int c)] [])) _
      refine XS.iloadN X0.here hx rfl (hb hby d_method_4_6) rfl ?_
      show Steps _ _ _ (s₁.setTop (mkF mM 7 #[.val (.int c)] [(.int c)])) _
      refine XS.bipush X0.here hx rfl (hb hby d_method_4_7) ?_
      exact kg)
    by_cases hc4 : c = (63 : Int32)
    · obtain ⟨fs, hr, hrun, hended, hW, hsame⟩ := X0.leave (v := some (.int 1)) (fun h => by rw [Bd.returns] at h; cases h)
      refine ⟨_, _, pre5 _ ?_, hrun, hended, _, _, rfl, ?_, ⟨_, rfl⟩, hW, hsame.mono (by decide) (by decide)⟩
      · refine XS.icmpNo X0.here hx rfl (hb hby d_method_4_9) rfl (teq hc4).2 ?_
        show Steps _ _ _ (s₁.setTop (mkF mM 12 #[.val (.int c)] [])) _
        refine XS.iconst X0.here hx rfl (hb hby d_method_4_12) ?_
        show Steps _ _ _ (s₁.setTop (mkF mM 13 #[.val (.int c)] [(.int 1)])) _
        refine XS.goto X0.here hx rfl (pc0 := 13) (pc' := 17) rfl (hb hby d_method_4_13) (by decide) (by decide) ?_
        show Steps _ _ _ (s₁.setTop (mkF mM 17 #[.val (.int c)] [(.int 1)])) _
        exact retN X0 hx (t := .boolean) Bd.returns (by simp) (hb hby d_method_4_17) hr
      · show Q_wild Z c h0 n0 _ s₁.heap _
        rw [e0]
        exact ⟨(by rw [own_wild, if_neg hc1, if_pos hc4]), rfl, rfl⟩
    · obtain ⟨fs, hr, hrun, hended, hW, hsame⟩ := X0.leave (v := some (.int 0)) (fun h => by rw [Bd.returns] at h; cases h)
      refine ⟨_, _, pre5 _ ?_, hrun, hended, _, _, rfl, ?_, ⟨_, rfl⟩, hW, hsame.mono (by decide) (by decide)⟩
      · refine XS.icmpYes X0.here hx rfl (pc0 := 9) (pc' := 16) rfl (hb hby d_method_4_9) rfl (feq hc4).2 (by decide) (by decide) ?_
        show Steps _ _ _ (s₁.setTop (mkF mM 16 #[.val (.int c)] [])) _
        refine XS.iconst X0.here hx rfl (hb hby d_method_4_16) ?_
        show Steps _ _ _ (s₁.setTop (mkF mM 17 #[.val (.int c)] [(.int 0)])) _
        exact retN X0 hx (t := .boolean) Bd.returns (by simp) (hb hby d_method_4_17) hr
      · show Q_wild Z c h0 n0 _ s₁.heap _
        rw [e0]
        exact ⟨(by rw [own_wild, if_neg hc1, if_neg hc4]), rfl, rfl⟩
set_option maxRecDepth 65536 in
set_option maxHeartbeats 40000000 in
theorem lp_ioc {pP : Program} {l : Launch} {eE : Env} {sS : State} {mM : MethodId} {args : Array Value} {below : List Frame} {meth : Method} {cC : Code} {locs : List Loc} {Z : State} {a0 : Array Value} (t : Addr) (kk : ClassId) (cs : List Int32) (d : Int32) (f : Nat) {h0 : Heap} {n0 : Nat} (hx : pP.tables.exec = Jvm.exec) (hZ : Z.Warmed39 sS.vm) (hw : ∀ d ∈ tables_1, d.before a0 Z = true) (hby : cC.code = jdk_43_method_23_code) (hml : cC.maxLocals = 6) (hown : sS.vm.findClass "java/lang/StringLatin1" = some mM.cls) (O0 : Old Z n0 h0) (V_t : Arv Z h0 t kk .byte (Int32.ofNat (cs).length) (own_b8 cs) (.int 0)) (hp1 : (cs.length ≤ 4000)) (hp2 : (∀ c ∈ cs, ¬ c < 0 ∧ ¬ (255 : Int32) < c)) (hp3 : (¬ d < 0 ∧ ¬ (255 : Int32) < d)) :
    ∀ (k : Nat) (i : Nat) {T0 : State} (X0 : Stand pP l eE (⟨0, 0, 0, 0⟩ : Room) sS mM args below meth cC T0 locs 0 0) (e0 : T0.heap = h0) (hik : i + k = cs.length), own_ToP pP l eE (⟨0, 0, 0, 0⟩ : Room) sS mM args below meth cC locs 0 0 h0 T0 (mkF mM 7 #[.val (.ref t), .val (.int d), .val (.int (Int32.ofNat f)), .val (.int (Int32.ofNat (cs).length)), .val (.int (d.toInt8.toInt32)), .val (.int (Int32.ofNat i))] []) (fun g' => (∃ Ls, g' = mkF mM 24 Ls [(.int (own_ixk cs d i k))]) ∨ (∃ Ls, g' = mkF mM 32 Ls [(.int (own_ixk cs d i k))])) := by
  intro k
  induction k with
  | zero =>
    intro i T0 X0 e0 hik
    refine ⟨T0, mkF mM 32 #[.val (.ref t), .val (.int d), .val (.int (Int32.ofNat f)), .val (.int (Int32.ofNat (cs).length)), .val (.int (d.toInt8.toInt32)), .val (.int (Int32.ofNat i))] [(.int (own_ixk cs d i 0))], Or.inr (⟨_, rfl⟩), X0, e0, fun tg kg => ?_⟩
    rw [show own_ixk cs d i 0 = (-1 : Int32) from rfl] at kg
    refine XS.iload X0.here hx rfl (hb hby dj43_23_7) rfl ?_
    show Steps _ _ _ (T0.setTop (mkF mM 9 #[.val (.ref t), .val (.int d), .val (.int (Int32.ofNat f)), .val (.int (Int32.ofNat (cs).length)), .val (.int (d.toInt8.toInt32)), .val (.int (Int32.ofNat i))] [(.int (Int32.ofNat i))])) _
    refine XS.iloadN X0.here hx rfl (hb hby dj43_23_9) rfl ?_
    show Steps _ _ _ (T0.setTop (mkF mM 10 #[.val (.ref t), .val (.int d), .val (.int (Int32.ofNat f)), .val (.int (Int32.ofNat (cs).length)), .val (.int (d.toInt8.toInt32)), .val (.int (Int32.ofNat i))] [(.int (Int32.ofNat (cs).length)), (.int (Int32.ofNat i))])) _
    refine XS.icmpYes X0.here hx rfl (pc0 := 10) (pc' := 31) rfl (hb hby dj43_23_10) rfl (flt (own_nlt (by omega) (by omega))).2.1 (by decide) (by decide) ?_
    show Steps _ _ _ (T0.setTop (mkF mM 31 #[.val (.ref t), .val (.int d), .val (.int (Int32.ofNat f)), .val (.int (Int32.ofNat (cs).length)), .val (.int (d.toInt8.toInt32)), .val (.int (Int32.ofNat i))] [])) _
    refine XS.iconst X0.here hx rfl (hb hby dj43_23_31) ?_
    exact kg
  | succ k ih =>
    intro i T0 X0 e0 hik
    obtain ⟨cl1, Ar1, -, S1, Nn1, Hh1, -⟩ := id V_t
    have hin1 : ¬ ((Int32.ofNat i) < 0 ∨ cl1.slots.size ≤ ((Int32.ofNat i)).toNatClampNeg) := inb_of S1 ⟨own_nneg _ (by omega), own_lt (by omega) (by omega)⟩
    have hat1 : cl1.slots[((Int32.ofNat i)).toNatClampNeg]? = some (.int ((cs.getD i 0).toInt8.toInt32)) := Hh1.at hin1 (own_b8_get cs (by omega) hp1)
    have pre3 : ∀ tg, Steps pP.tables eE below (T0.setTop (mkF mM 19 #[.val (.ref t), .val (.int d), .val (.int (Int32.ofNat f)), .val (.int (Int32.ofNat (cs).length)), .val (.int (d.toInt8.toInt32)), .val (.int (Int32.ofNat i))] [(.int (d.toInt8.toInt32)), (.int ((cs.getD i 0).toInt8.toInt32))])) tg → Steps pP.tables eE below (T0.setTop (mkF mM 7 #[.val (.ref t), .val (.int d), .val (.int (Int32.ofNat f)), .val (.int (Int32.ofNat (cs).length)), .val (.int (d.toInt8.toInt32)), .val (.int (Int32.ofNat i))] [])) tg := fun tg kg => (by
      refine XS.iload X0.here hx rfl (hb hby dj43_23_7) rfl ?_
      show Steps _ _ _ (T0.setTop (mkF mM 9 #[.val (.ref t), .val (.int d), .val (.int (Int32.ofNat f)), .val (.int (Int32.ofNat (cs).length)), .val (.int (d.toInt8.toInt32)), .val (.int (Int32.ofNat i))] [(.int (Int32.ofNat i))])) _
      refine XS.iloadN X0.here hx rfl (hb hby dj43_23_9) rfl ?_
      show Steps _ _ _ (T0.setTop (mkF mM 10 #[.val (.ref t), .val (.int d), .val (.int (Int32.ofNat f)), .val (.int (Int32.ofNat (cs).length)), .val (.int (d.toInt8.toInt32)), .val (.int (Int32.ofNat i))] [(.int (Int32.ofNat (cs).length)), (.int (Int32.ofNat i))])) _
      refine XS.icmpNo X0.here hx rfl (hb hby dj43_23_10) rfl (tlt (own_lt (by omega) (by omega))).2.1 ?_
      show Steps _ _ _ (T0.setTop (mkF mM 13 #[.val (.ref t), .val (.int d), .val (.int (Int32.ofNat f)), .val (.int (Int32.ofNat (cs).length)), .val (.int (d.toInt8.toInt32)), .val (.int (Int32.ofNat i))] [])) _
      refine XS.aloadN X0.here hx rfl (hb hby dj43_23_13) rfl rfl ?_
      show Steps _ _ _ (T0.setTop (mkF mM 14 #[.val (.ref t), .val (.int d), .val (.int (Int32.ofNat f)), .val (.int (Int32.ofNat (cs).length)), .val (.int (d.toInt8.toInt32)), .val (.int (Int32.ofNat i))] [(.ref t)])) _
      refine XS.iload X0.here hx rfl (hb hby dj43_23_14) rfl ?_
      show Steps _ _ _ (T0.setTop (mkF mM 16 #[.val (.ref t), .val (.int d), .val (.int (Int32.ofNat f)), .val (.int (Int32.ofNat (cs).length)), .val (.int (d.toInt8.toInt32)), .val (.int (Int32.ofNat i))] [(.int (Int32.ofNat i)), (.ref t)])) _
      refine X0.baloadBytes hx (j := (Int32.ofNat i)) (v := (.int ((cs.getD i 0).toInt8.toInt32))) (by rw [e0]; exact Ar1.1) (State.isArrayOf_alike hZ.alike Ar1.2.1) Ar1.2.2 hin1 hat1 (g := (mkF mM 16 #[.val (.ref t), .val (.int d), .val (.int (Int32.ofNat f)), .val (.int (Int32.ofNat (cs).length)), .val (.int (d.toInt8.toInt32)), .val (.int (Int32.ofNat i))] [(.int (Int32.ofNat i)), (.ref t)])) rfl rfl (hb hby dj43_23_16) _ ?_
      show Steps _ _ _ (T0.setTop (mkF mM 17 #[.val (.ref t), .val (.int d), .val (.int (Int32.ofNat f)), .val (.int (Int32.ofNat (cs).length)), .val (.int (d.toInt8.toInt32)), .val (.int (Int32.ofNat i))] [(.int ((cs.getD i 0).toInt8.toInt32))])) _
      refine XS.iload X0.here hx rfl (hb hby dj43_23_17) rfl ?_
      exact kg)
    by_cases hc2 : ((cs.getD i 0).toInt8.toInt32) = (d.toInt8.toInt32)
    · refine ⟨T0, mkF mM 24 #[.val (.ref t), .val (.int d), .val (.int (Int32.ofNat f)), .val (.int (Int32.ofNat (cs).length)), .val (.int (d.toInt8.toInt32)), .val (.int (Int32.ofNat i))] [(.int (own_ixk cs d i (k + 1)))], Or.inl ⟨_, rfl⟩, X0, e0, fun tg kg => ?_⟩
      rw [show own_ixk cs d i (k + 1) = Int32.ofNat i from if_pos (own_lo8_inj (hp2 _ (own_mem cs (i := i) (by omega))) hp3 hc2)] at kg
      refine pre3 tg ?_
      refine XS.icmpNo X0.here hx rfl (hb hby dj43_23_19) rfl (teq hc2).2 ?_
      show Steps _ _ _ (T0.setTop (mkF mM 22 #[.val (.ref t), .val (.int d), .val (.int (Int32.ofNat f)), .val (.int (Int32.ofNat (cs).length)), .val (.int (d.toInt8.toInt32)), .val (.int (Int32.ofNat i))] [])) _
      refine XS.iload X0.here hx rfl (hb hby dj43_23_22) rfl ?_
      exact kg
    · obtain ⟨T4, g4, hg4, X4, e4, st4⟩ := ih (i + 1) X0 e0 (by omega)
      refine ⟨T4, g4, (by rw [show own_ixk cs d i (k + 1) = own_ixk cs d (i + 1) k from if_neg (fun q => hc2 (by rw [q]))]; exact hg4), X4, e4, fun tg kg => ?_⟩
      refine pre3 tg ?_
      refine XS.icmpYes X0.here hx rfl (pc0 := 19) (pc' := 25) rfl (hb hby dj43_23_19) rfl (feq hc2).2 (by decide) (by decide) ?_
      show Steps _ _ _ (T0.setTop (mkF mM 25 #[.val (.ref t), .val (.int d), .val (.int (Int32.ofNat f)), .val (.int (Int32.ofNat (cs).length)), .val (.int (d.toInt8.toInt32)), .val (.int (Int32.ofNat i))] [])) _
      refine XS.iinc X0.here hx rfl (hb hby dj43_23_25) rfl (l' := #[.val (.ref t), .val (.int d), .val (.int (Int32.ofNat f)), .val (.int (Int32.ofNat (cs).length)), .val (.int (d.toInt8.toInt32)), .val (.int ((Int32.ofNat i) + (1 : Int32)))]) rfl ?_
      show Steps _ _ _ (T0.setTop (mkF mM 28 #[.val (.ref t), .val (.int d), .val (.int (Int32.ofNat f)), .val (.int (Int32.ofNat (cs).length)), .val (.int (d.toInt8.toInt32)), .val (.int ((Int32.ofNat i) + (1 : Int32)))] [])) _
      refine XS.goto X0.here hx rfl (pc0 := 28) (pc' := 7) rfl (hb hby dj43_23_28) (by decide) (by decide) ?_
      show Steps _ _ _ (T0.setTop (mkF mM 7 #[.val (.ref t), .val (.int d), .val (.int (Int32.ofNat f)), .val (.int (Int32.ofNat (cs).length)), .val (.int (d.toInt8.toInt32)), .val (.int ((Int32.ofNat i) + (1 : Int32)))] [])) _
      rw [own_inc i]
      exact st4 tg kg
theorem ef_ioc (m : MethodId) (x0 : Addr) (x1 : Int32) (x2 : Int32) (x3 : Int32) : entryFrame m #[(.ref x0), (.int x1), (.int x2), (.int x3)] 6 = mkF m 0 #[.val (.ref x0), .val (.int x1), .val (.int x2), .val (.int x3), .unset, .unset] [] := by first | (simp [entryFrame, mkF, argsToLocals, Value.category]; done) | rfl
def Q_ioc (Z : State) (t : Addr) (kk : ClassId) (cs : List Int32) (d : Int32) (f : Nat) (h0 : Heap) (n0 : Nat) (vV : Option Value) (h : Heap) (LL : List Loc) : Prop := vV = some (.int (own_ixk cs d f (cs.length - f))) ∧ LL = [] ∧ h = h0
set_option maxRecDepth 65536 in
set_option maxHeartbeats 40000000 in
theorem rm_ioc (l : Launch) (Z : State) (a0 : Array Value) (hw : ∀ d ∈ tables_1, d.before a0 Z = true) (ws : List Jvm.Cond) (t : Addr) (kk : ClassId) (cs : List Int32) (d : Int32) (f : Nat) (h0 : Heap) (n0 : Nat) (O0 : Old Z n0 h0) (V_t : Arv Z h0 t kk .byte (Int32.ofNat (cs).length) (own_b8 cs) (.int 0)) (hp1 : (cs.length ≤ 4000)) (hp2 : (∀ c ∈ cs, ¬ c < 0 ∧ ¬ (255 : Int32) < c)) (hp3 : (¬ d < 0 ∧ ¬ (255 : Int32) < d)) (hp4 : (f ≤ cs.length)) :
    MetFree l (⟨"java/lang/StringLatin1", "indexOfChar", "([BIII)I"⟩ : MethodName) (head1 (Jvm.Cond.code (⟨"java/lang/StringLatin1", "indexOfChar", "([BIII)I"⟩ : MethodName) jdk_43_method_23_code 6 (some .int) :: ws) (⟨0, 0, 0, 0⟩ : Room)) (fun aa_ U => aa_ = #[(.ref t), (.int d), (.int (Int32.ofNat f)), (.int (Int32.ofNat (cs).length))] ∧ Z.Warmed39 U.vm ∧ U.heap = h0) (fun _ _ _ _ _ => True) (fun _ U o U' => ∃ vV LL, o = .returned vV ∧ Q_ioc Z t kk cs d f h0 n0 vV U'.heap LL ∧ FrameEnd U o U' LL (⟨0, 0, 0, 0⟩ : Room).cells (⟨0, 0, 0, 0⟩ : Room).slots) := by
  refine MetFree.of_bodySF (plainFor_of_name pn_0) hisR ?_
  intro pP eE sS mM args below meth cC s₁ Bd hml0 hP hK
  obtain ⟨rfl, hZ, hh⟩ := hP
  have hx := Bd.exec
  have hby := Bd.bytes
  have hml : cC.maxLocals = 6 := hml0
  have hown : sS.vm.findClass "java/lang/StringLatin1" = some mM.cls := findClass_of_methodNamed Bd.named
  have hnm := (name_of_methodNamed Bd.named Bd.method).1
  have X0 : Stand pP l eE (⟨0, 0, 0, 0⟩ : Room) sS mM #[(.ref t), (.int d), (.int (Int32.ofNat f)), (.int (Int32.ofNat (cs).length))] below meth cC s₁ [] 0 0 := Stand.of_body Bd
  have e0 : s₁.heap = h0 := by rw [← hh, Bd.state]; rfl
  have N0 := Fr.nil n0
  have pre0 : ∀ tg, Steps pP.tables eE below (s₁.setTop (mkF mM 0 #[.val (.ref t), .val (.int d), .val (.int (Int32.ofNat f)), .val (.int (Int32.ofNat (cs).length)), .unset, .unset] [])) tg → Steps pP.tables eE below (s₁.setTop (entryFrame mM #[(.ref t), (.int d), (.int (Int32.ofNat f)), (.int (Int32.ofNat (cs).length))] 6)) tg := fun tg kg => castTop (ef_ioc mM t d (Int32.ofNat f) (Int32.ofNat (cs).length)) kg
  obtain ⟨T1, g1, hg1, X1, e1, st1⟩ := lp_ioc t kk cs d f hx hZ hw hby hml hown O0 V_t hp1 hp2 hp3 (cs.length - f) (f) X0 e0 (by omega)
  rcases hg1 with ⟨Lx1, rfl⟩ | ⟨Lx1, rfl⟩
  · obtain ⟨fs, hr, hrun, hended, hW, hsame⟩ := X1.leave (v := some (.int (own_ixk cs d f (cs.length - f)))) (fun h => by rw [Bd.returns] at h; cases h)
    refine ⟨_, _, pre0 _ ?_, hrun, hended, _, _, rfl, ?_, ⟨_, rfl⟩, hW, hsame.mono (by decide) (by decide)⟩
    · refine XS.iloadN X0.here hx rfl (hb hby dj43_23_0) rfl ?_
      show Steps _ _ _ (s₁.setTop (mkF mM 1 #[.val (.ref t), .val (.int d), .val (.int (Int32.ofNat f)), .val (.int (Int32.ofNat (cs).length)), .unset, .unset] [(.int d)])) _
      refine XS.i2b X0.here hx rfl (hb hby dj43_23_1) rfl ?_
      show Steps _ _ _ (s₁.setTop (mkF mM 2 #[.val (.ref t), .val (.int d), .val (.int (Int32.ofNat f)), .val (.int (Int32.ofNat (cs).length)), .unset, .unset] [(.int (d.toInt8.toInt32))])) _
      refine XS.istore X0.here hx rfl (hb hby dj43_23_2) rfl (l' := #[.val (.ref t), .val (.int d), .val (.int (Int32.ofNat f)), .val (.int (Int32.ofNat (cs).length)), .val (.int (d.toInt8.toInt32)), .unset]) rfl ?_
      show Steps _ _ _ (s₁.setTop (mkF mM 4 #[.val (.ref t), .val (.int d), .val (.int (Int32.ofNat f)), .val (.int (Int32.ofNat (cs).length)), .val (.int (d.toInt8.toInt32)), .unset] [])) _
      refine XS.iloadN X0.here hx rfl (hb hby dj43_23_4) rfl ?_
      show Steps _ _ _ (s₁.setTop (mkF mM 5 #[.val (.ref t), .val (.int d), .val (.int (Int32.ofNat f)), .val (.int (Int32.ofNat (cs).length)), .val (.int (d.toInt8.toInt32)), .unset] [(.int (Int32.ofNat f))])) _
      refine XS.istore X0.here hx rfl (hb hby dj43_23_5) rfl (l' := #[.val (.ref t), .val (.int d), .val (.int (Int32.ofNat f)), .val (.int (Int32.ofNat (cs).length)), .val (.int (d.toInt8.toInt32)), .val (.int (Int32.ofNat f))]) rfl ?_
      show Steps _ _ _ (s₁.setTop (mkF mM 7 #[.val (.ref t), .val (.int d), .val (.int (Int32.ofNat f)), .val (.int (Int32.ofNat (cs).length)), .val (.int (d.toInt8.toInt32)), .val (.int (Int32.ofNat f))] [])) _
      refine st1 _ ?_
      show Steps _ _ _ (T1.setTop (mkF mM 24 Lx1 [(.int (own_ixk cs d f (cs.length - f)))])) _
      exact retI X1 hx Bd.returns (hb hby dj43_23_24) hr
    · show Q_ioc Z t kk cs d f h0 n0 _ T1.heap _
      rw [e1]
      exact ⟨rfl, rfl, rfl⟩
  · obtain ⟨fs, hr, hrun, hended, hW, hsame⟩ := X1.leave (v := some (.int (own_ixk cs d f (cs.length - f)))) (fun h => by rw [Bd.returns] at h; cases h)
    refine ⟨_, _, pre0 _ ?_, hrun, hended, _, _, rfl, ?_, ⟨_, rfl⟩, hW, hsame.mono (by decide) (by decide)⟩
    · refine XS.iloadN X0.here hx rfl (hb hby dj43_23_0) rfl ?_
      show Steps _ _ _ (s₁.setTop (mkF mM 1 #[.val (.ref t), .val (.int d), .val (.int (Int32.ofNat f)), .val (.int (Int32.ofNat (cs).length)), .unset, .unset] [(.int d)])) _
      refine XS.i2b X0.here hx rfl (hb hby dj43_23_1) rfl ?_
      show Steps _ _ _ (s₁.setTop (mkF mM 2 #[.val (.ref t), .val (.int d), .val (.int (Int32.ofNat f)), .val (.int (Int32.ofNat (cs).length)), .unset, .unset] [(.int (d.toInt8.toInt32))])) _
      refine XS.istore X0.here hx rfl (hb hby dj43_23_2) rfl (l' := #[.val (.ref t), .val (.int d), .val (.int (Int32.ofNat f)), .val (.int (Int32.ofNat (cs).length)), .val (.int (d.toInt8.toInt32)), .unset]) rfl ?_
      show Steps _ _ _ (s₁.setTop (mkF mM 4 #[.val (.ref t), .val (.int d), .val (.int (Int32.ofNat f)), .val (.int (Int32.ofNat (cs).length)), .val (.int (d.toInt8.toInt32)), .unset] [])) _
      refine XS.iloadN X0.here hx rfl (hb hby dj43_23_4) rfl ?_
      show Steps _ _ _ (s₁.setTop (mkF mM 5 #[.val (.ref t), .val (.int d), .val (.int (Int32.ofNat f)), .val (.int (Int32.ofNat (cs).length)), .val (.int (d.toInt8.toInt32)), .unset] [(.int (Int32.ofNat f))])) _
      refine XS.istore X0.here hx rfl (hb hby dj43_23_5) rfl (l' := #[.val (.ref t), .val (.int d), .val (.int (Int32.ofNat f)), .val (.int (Int32.ofNat (cs).length)), .val (.int (d.toInt8.toInt32)), .val (.int (Int32.ofNat f))]) rfl ?_
      show Steps _ _ _ (s₁.setTop (mkF mM 7 #[.val (.ref t), .val (.int d), .val (.int (Int32.ofNat f)), .val (.int (Int32.ofNat (cs).length)), .val (.int (d.toInt8.toInt32)), .val (.int (Int32.ofNat f))] [])) _
      refine st1 _ ?_
      show Steps _ _ _ (T1.setTop (mkF mM 32 Lx1 [(.int (own_ixk cs d f (cs.length - f)))])) _
      exact retI X1 hx Bd.returns (hb hby dj43_23_32) hr
    · show Q_ioc Z t kk cs d f h0 n0 _ T1.heap _
      rw [e1]
      exact ⟨rfl, rfl, rfl⟩
theorem ef_lix (m : MethodId) (x0 : Addr) (x1 : Int32) (x2 : Int32) (x3 : Int32) : entryFrame m #[(.ref x0), (.int x1), (.int x2), (.int x3)] 4 = mkF m 0 #[.val (.ref x0), .val (.int x1), .val (.int x2), .val (.int x3)] [] := by first | (simp [entryFrame, mkF, argsToLocals, Value.category]; done) | rfl
def Q_lix (Z : State) (t : Addr) (kk : ClassId) (cs : List Int32) (d : Int32) (f : Nat) (h0 : Heap) (n0 : Nat) (vV : Option Value) (h : Heap) (LL : List Loc) : Prop := vV = some (.int (own_ixk cs d f (cs.length - f))) ∧ LL = [] ∧ h = h0
set_option maxRecDepth 65536 in
set_option maxHeartbeats 40000000 in
theorem rm_lix (l : Launch) (Z : State) (a0 : Array Value) (hw : ∀ d ∈ tables_1, d.before a0 Z = true) (ws : List Jvm.Cond) (t : Addr) (kk : ClassId) (cs : List Int32) (d : Int32) (f : Nat) (h0 : Heap) (n0 : Nat) (O0 : Old Z n0 h0) (V_t : Arv Z h0 t kk .byte (Int32.ofNat (cs).length) (own_b8 cs) (.int 0)) (hp1 : (cs.length ≤ 4000)) (hp2 : (∀ c ∈ cs, ¬ c < 0 ∧ ¬ (255 : Int32) < c)) (hp3 : (f ≤ cs.length)) :
    MetFree l (⟨"java/lang/StringLatin1", "indexOf", "([BIII)I"⟩ : MethodName) (head1 (Jvm.Cond.code (⟨"java/lang/StringLatin1", "indexOf", "([BIII)I"⟩ : MethodName) jdk_43_method_22_code 4 (some .int) :: ws) (⟨1, 0, 0, 17⟩ : Room)) (fun aa_ U => aa_ = #[(.ref t), (.int d), (.int (Int32.ofNat f)), (.int (Int32.ofNat (cs).length))] ∧ Z.Warmed39 U.vm ∧ U.heap = h0) (fun _ _ _ _ _ => True) (fun _ U o U' => ∃ vV LL, o = .returned vV ∧ Q_lix Z t kk cs d f h0 n0 vV U'.heap LL ∧ FrameEnd U o U' LL (⟨1, 0, 0, 17⟩ : Room).cells (⟨1, 0, 0, 17⟩ : Room).slots) := by
  refine MetFree.of_bodySF (plainFor_of_name pn_0) hisR ?_
  intro pP eE sS mM args below meth cC s₁ Bd hml0 hP hK
  obtain ⟨rfl, hZ, hh⟩ := hP
  have hx := Bd.exec
  have hby := Bd.bytes
  have hml : cC.maxLocals = 4 := hml0
  have hown : sS.vm.findClass "java/lang/StringLatin1" = some mM.cls := findClass_of_methodNamed Bd.named
  have hnm := (name_of_methodNamed Bd.named Bd.method).1
  have X0 : Stand pP l eE (⟨1, 0, 0, 17⟩ : Room) sS mM #[(.ref t), (.int d), (.int (Int32.ofNat f)), (.int (Int32.ofNat (cs).length))] below meth cC s₁ [] 0 0 := Stand.of_body Bd
  have e0 : s₁.heap = h0 := by rw [← hh, Bd.state]; rfl
  have N0 := Fr.nil n0
  have pre0 : ∀ tg, Steps pP.tables eE below (s₁.setTop (mkF mM 0 #[.val (.ref t), .val (.int d), .val (.int (Int32.ofNat f)), .val (.int (Int32.ofNat (cs).length))] [])) tg → Steps pP.tables eE below (s₁.setTop (entryFrame mM #[(.ref t), (.int d), (.int (Int32.ofNat f)), (.int (Int32.ofNat (cs).length))] 4)) tg := fun tg kg => castTop (ef_lix mM t d (Int32.ofNat f) (Int32.ofNat (cs).length)) kg
  obtain ⟨_, _, ⟨T1, L1, k1, n1⟩, -, X1, ⟨Lc1, hQ1, l1, y1, z1⟩, st1⟩ := Jvm.LawKit.callS X0 hx (y := (⟨"java/lang/StringLatin1", "canEncode", "(I)Z"⟩ : MethodName)) hown (mvT hZ (w_62 hw)) (mvT hZ (w_63 hw)) (mvT hZ (w_60 hw)) (mvT hZ (w_64 hw)) (by decide) (backOf (W := 0) (rm_enc l Z a0 hw [] d h0 n0 O0 ) hZ (w_64 hw) (w_60 hw) (by decide) (by decide)) (g := (mkF mM 1 #[.val (.ref t), .val (.int d), .val (.int (Int32.ofNat f)), .val (.int (Int32.ofNat (cs).length))] [(.int d)])) rfl (by rw [hml]; rfl) (argsL := [(.int d)]) (rest := []) (lenOf pd_17 rfl) rfl (by show 2 * 0 + _ ≤ _; exact Nat.le_of_eq rfl) (hb hby dj43_22_1) (fun _ _ => ⟨rfl, e0, (by decide : 0 + 0 ≤ _), (by decide : 0 + 0 ≤ _)⟩)
  dsimp only [Pt.U, Pt.locs, Pt.cells, Pt.slots] at X1 l1 y1 z1 st1 hQ1
  subst l1 y1 z1
  obtain ⟨rfl, rfl, Kq1⟩ := hQ1
  try rw [List.append_nil] at X1
  have pre3 : ∀ tg, Steps pP.tables eE below (T1.setTop (mkF mM 4 #[.val (.ref t), .val (.int d), .val (.int (Int32.ofNat f)), .val (.int (Int32.ofNat (cs).length))] [(.int (own_enc d))])) tg → Steps pP.tables eE below (s₁.setTop (entryFrame mM #[(.ref t), (.int d), (.int (Int32.ofNat f)), (.int (Int32.ofNat (cs).length))] 4)) tg := fun tg kg => pre0 tg (by
    refine XS.iloadN X0.here hx rfl (hb hby dj43_22_0) rfl ?_
    show Steps _ _ _ (s₁.setTop (mkF mM 1 #[.val (.ref t), .val (.int d), .val (.int (Int32.ofNat f)), .val (.int (Int32.ofNat (cs).length))] [(.int d)])) _
    refine st1 _ ?_
    exact kg)
  by_cases hc2 : (own_enc d) = (0 : Int32)
  · obtain ⟨fs, hr, hrun, hended, hW, hsame⟩ := X1.leave (v := some (.int (-1 : Int32))) (fun h => by rw [Bd.returns] at h; cases h)
    refine ⟨_, _, pre3 _ ?_, hrun, hended, _, _, rfl, ?_, ⟨_, rfl⟩, hW, hsame.mono (by decide) (by decide)⟩
    · refine XS.ifNo X1.here hx rfl (hb hby dj43_22_4) rfl ((if0 _ _).trans (teq hc2).2) ?_
      show Steps _ _ _ (T1.setTop (mkF mM 7 #[.val (.ref t), .val (.int d), .val (.int (Int32.ofNat f)), .val (.int (Int32.ofNat (cs).length))] [])) _
      refine XS.iconst X1.here hx rfl (hb hby dj43_22_7) ?_
      show Steps _ _ _ (T1.setTop (mkF mM 8 #[.val (.ref t), .val (.int d), .val (.int (Int32.ofNat f)), .val (.int (Int32.ofNat (cs).length))] [(.int (-1 : Int32))])) _
      exact retI X1 hx Bd.returns (hb hby dj43_22_8) hr
    · show Q_lix Z t kk cs d f h0 n0 _ T1.heap _
      rw [Kq1]
      exact ⟨(by rw [own_enc_bad hc2 hp2 _ _ (by omega)]), rfl, rfl⟩
  · obtain ⟨_, _, ⟨T5, L5, k5, n5⟩, -, X5, ⟨Lc5, hQ5, l5, y5, z5⟩, st5⟩ := Jvm.LawKit.callS X1 hx (y := (⟨"java/lang/Math", "max", "(II)I"⟩ : MethodName)) hown (mvT hZ (w_65 hw)) (mvT hZ (w_66 hw)) (mvT hZ (w_67 hw)) (mvT hZ (w_68 hw)) (by decide) (backOf (W := 0) (rm_max l Z a0 hw [] (Int32.ofNat f) (0 : Int32) h0 n0 O0 ) hZ (w_68 hw) (w_67 hw) (by decide) (by decide)) (g := (mkF mM 11 #[.val (.ref t), .val (.int d), .val (.int (Int32.ofNat f)), .val (.int (Int32.ofNat (cs).length))] [(.int 0), (.int (Int32.ofNat f))])) rfl (by rw [hml]; rfl) (argsL := [(.int (Int32.ofNat f)), (.int 0)]) (rest := []) (lenOf pd_7 rfl) rfl (by show 2 * 0 + _ ≤ _; exact Nat.le_of_eq rfl) (hb hby dj43_22_11) (fun _ _ => ⟨rfl, Kq1, (by decide : 0 + 0 ≤ _), (by decide : 0 + 0 ≤ _)⟩)
    dsimp only [Pt.U, Pt.locs, Pt.cells, Pt.slots] at X5 l5 y5 z5 st5 hQ5
    subst l5 y5 z5
    obtain ⟨rfl, rfl, Kq5⟩ := hQ5
    try rw [List.append_nil] at X5
    obtain ⟨cl6, Ar6, -, S6, Nn6, -, -⟩ := id V_t
    obtain ⟨_, _, ⟨T7, L7, k7, n7⟩, -, X7, ⟨Lc7, hQ7, l7, y7, z7⟩, st7⟩ := Jvm.LawKit.callS X5 hx (y := (⟨"java/lang/Math", "min", "(II)I"⟩ : MethodName)) hown (mvT hZ (w_69 hw)) (mvT hZ (w_70 hw)) (mvT hZ (w_67 hw)) (mvT hZ (w_71 hw)) (by decide) (backOf (W := 0) (rm_min l Z a0 hw [] (Int32.ofNat (cs).length) (Int32.ofNat (cs).length) h0 n0 O0 ) hZ (w_71 hw) (w_67 hw) (by decide) (by decide)) (g := (mkF mM 18 #[.val (.ref t), .val (.int d), .val (.int (Int32.ofNat f)), .val (.int (Int32.ofNat (cs).length))] [(.int (Int32.ofNat (cs).length)), (.int (Int32.ofNat (cs).length))])) rfl (by rw [hml]; rfl) (argsL := [(.int (Int32.ofNat (cs).length)), (.int (Int32.ofNat (cs).length))]) (rest := []) (lenOf pd_7 rfl) rfl (by show 2 * 0 + _ ≤ _; exact Nat.le_of_eq rfl) (hb hby dj43_22_18) (fun _ _ => ⟨rfl, Kq5, (by decide : 0 + 0 ≤ _), (by decide : 0 + 0 ≤ _)⟩)
    dsimp only [Pt.U, Pt.locs, Pt.cells, Pt.slots] at X7 l7 y7 z7 st7 hQ7
    subst l7 y7 z7
    obtain ⟨rfl, rfl, Kq7⟩ := hQ7
    try rw [List.append_nil] at X7
    have pre9 : ∀ tg, Steps pP.tables eE below (T7.setTop (mkF mM 24 #[.val (.ref t), .val (.int d), .val (.int (Int32.ofNat f)), .val (.int (Int32.ofNat (cs).length))] [(.int (Int32.ofNat (cs).length)), (.int (Int32.ofNat f))])) tg → Steps pP.tables eE below (s₁.setTop (entryFrame mM #[(.ref t), (.int d), (.int (Int32.ofNat f)), (.int (Int32.ofNat (cs).length))] 4)) tg := fun tg kg => pre3 tg (by
      refine XS.ifYes X1.here hx rfl (pc0 := 4) (pc' := 9) rfl (hb hby dj43_22_4) rfl ((if0 _ _).trans (feq hc2).2) (by decide) (by decide) ?_
      show Steps _ _ _ (T1.setTop (mkF mM 9 #[.val (.ref t), .val (.int d), .val (.int (Int32.ofNat f)), .val (.int (Int32.ofNat (cs).length))] [])) _
      refine XS.iloadN X1.here hx rfl (hb hby dj43_22_9) rfl ?_
      show Steps _ _ _ (T1.setTop (mkF mM 10 #[.val (.ref t), .val (.int d), .val (.int (Int32.ofNat f)), .val (.int (Int32.ofNat (cs).length))] [(.int (Int32.ofNat f))])) _
      refine XS.iconst X1.here hx rfl (hb hby dj43_22_10) ?_
      show Steps _ _ _ (T1.setTop (mkF mM 11 #[.val (.ref t), .val (.int d), .val (.int (Int32.ofNat f)), .val (.int (Int32.ofNat (cs).length))] [(.int 0), (.int (Int32.ofNat f))])) _
      refine st5 _ ?_
      show Steps _ _ _ (T5.setTop (mkF mM 14 #[.val (.ref t), .val (.int d), .val (.int (Int32.ofNat f)), .val (.int (Int32.ofNat (cs).length))] [(.int (own_max (Int32.ofNat f) (0 : Int32)))])) _
      rw [show own_max (Int32.ofNat f) (0 : Int32) = Int32.ofNat f from if_neg (own_nneg _ (by omega))]
      show Steps _ _ _ (T5.setTop (mkF mM 14 #[.val (.ref t), .val (.int d), .val (.int (Int32.ofNat f)), .val (.int (Int32.ofNat (cs).length))] [(.int (Int32.ofNat f))])) _
      refine XS.istoreN X5.here hx rfl (hb hby dj43_22_14) rfl (l' := #[.val (.ref t), .val (.int d), .val (.int (Int32.ofNat f)), .val (.int (Int32.ofNat (cs).length))]) rfl ?_
      show Steps _ _ _ (T5.setTop (mkF mM 15 #[.val (.ref t), .val (.int d), .val (.int (Int32.ofNat f)), .val (.int (Int32.ofNat (cs).length))] [])) _
      refine XS.iloadN X5.here hx rfl (hb hby dj43_22_15) rfl ?_
      show Steps _ _ _ (T5.setTop (mkF mM 16 #[.val (.ref t), .val (.int d), .val (.int (Int32.ofNat f)), .val (.int (Int32.ofNat (cs).length))] [(.int (Int32.ofNat (cs).length))])) _
      refine XS.aloadN X5.here hx rfl (hb hby dj43_22_16) rfl rfl ?_
      show Steps _ _ _ (T5.setTop (mkF mM 17 #[.val (.ref t), .val (.int d), .val (.int (Int32.ofNat f)), .val (.int (Int32.ofNat (cs).length))] [(.ref t), (.int (Int32.ofNat (cs).length))])) _
      refine X5.arraylength hx (by rw [Kq5]; exact Ar6.1) (State.isArrayOf_alike hZ.alike Ar6.2.1) (g := (mkF mM 17 #[.val (.ref t), .val (.int d), .val (.int (Int32.ofNat f)), .val (.int (Int32.ofNat (cs).length))] [(.ref t), (.int (Int32.ofNat (cs).length))])) rfl rfl (hb hby dj43_22_17) _ ?_
      rw [len_of S6 Nn6]
      show Steps _ _ _ (T5.setTop (mkF mM 18 #[.val (.ref t), .val (.int d), .val (.int (Int32.ofNat f)), .val (.int (Int32.ofNat (cs).length))] [(.int (Int32.ofNat (cs).length)), (.int (Int32.ofNat (cs).length))])) _
      refine st7 _ ?_
      show Steps _ _ _ (T7.setTop (mkF mM 21 #[.val (.ref t), .val (.int d), .val (.int (Int32.ofNat f)), .val (.int (Int32.ofNat (cs).length))] [(.int (own_min (Int32.ofNat (cs).length) (Int32.ofNat (cs).length)))])) _
      rw [show own_min (Int32.ofNat (cs).length) (Int32.ofNat (cs).length) = Int32.ofNat (cs).length from if_neg (fun q => absurd (own_ltI q (by omega) (by omega)) (by omega))]
      show Steps _ _ _ (T7.setTop (mkF mM 21 #[.val (.ref t), .val (.int d), .val (.int (Int32.ofNat f)), .val (.int (Int32.ofNat (cs).length))] [(.int (Int32.ofNat (cs).length))])) _
      refine XS.istoreN X7.here hx rfl (hb hby dj43_22_21) rfl (l' := #[.val (.ref t), .val (.int d), .val (.int (Int32.ofNat f)), .val (.int (Int32.ofNat (cs).length))]) rfl ?_
      show Steps _ _ _ (T7.setTop (mkF mM 22 #[.val (.ref t), .val (.int d), .val (.int (Int32.ofNat f)), .val (.int (Int32.ofNat (cs).length))] [])) _
      refine XS.iloadN X7.here hx rfl (hb hby dj43_22_22) rfl ?_
      show Steps _ _ _ (T7.setTop (mkF mM 23 #[.val (.ref t), .val (.int d), .val (.int (Int32.ofNat f)), .val (.int (Int32.ofNat (cs).length))] [(.int (Int32.ofNat f))])) _
      refine XS.iloadN X7.here hx rfl (hb hby dj43_22_23) rfl ?_
      exact kg)
    by_cases hc8 : (Int32.ofNat f) < (Int32.ofNat (cs).length)
    · obtain ⟨_, _, ⟨T10, L10, k10, n10⟩, -, X10, ⟨Lc10, hQ10, l10, y10, z10⟩, st10⟩ := Jvm.LawKit.callS X7 hx (y := (⟨"java/lang/StringLatin1", "indexOfChar", "([BIII)I"⟩ : MethodName)) hown (mvT hZ (w_85 hw)) (mvT hZ (w_86 hw)) (mvT hZ (w_60 hw)) (mvT hZ (w_87 hw)) (by decide) (backOf (W := 0) (rm_ioc l Z a0 hw [] t kk cs d f h0 n0 O0 V_t hp1 hp2 (own_enc_ok hc2 : ¬ d < 0 ∧ ¬ (255 : Int32) < d) hp3) hZ (w_87 hw) (w_60 hw) (by decide) (by decide)) (g := (mkF mM 33 #[.val (.ref t), .val (.int d), .val (.int (Int32.ofNat f)), .val (.int (Int32.ofNat (cs).length))] [(.int (Int32.ofNat (cs).length)), (.int (Int32.ofNat f)), (.int d), (.ref t)])) rfl (by rw [hml]; rfl) (argsL := [(.ref t), (.int d), (.int (Int32.ofNat f)), (.int (Int32.ofNat (cs).length))]) (rest := []) (lenOf pd_6 rfl) rfl (by show 2 * 0 + _ ≤ _; exact Nat.le_of_eq rfl) (hb hby dj43_22_33) (fun _ _ => ⟨rfl, Kq7, (by decide : 0 + 0 ≤ _), (by decide : 0 + 0 ≤ _)⟩)
      dsimp only [Pt.U, Pt.locs, Pt.cells, Pt.slots] at X10 l10 y10 z10 st10 hQ10
      subst l10 y10 z10
      obtain ⟨rfl, rfl, Kq10⟩ := hQ10
      try rw [List.append_nil] at X10
      obtain ⟨fs, hr, hrun, hended, hW, hsame⟩ := X10.leave (v := some (.int (own_ixk cs d f (cs.length - f)))) (fun h => by rw [Bd.returns] at h; cases h)
      refine ⟨_, _, pre9 _ ?_, hrun, hended, _, _, rfl, ?_, ⟨_, rfl⟩, hW, hsame.mono (by decide) (by decide)⟩
      · refine XS.icmpYes X7.here hx rfl (pc0 := 24) (pc' := 29) rfl (hb hby dj43_22_24) rfl (tlt hc8).1 (by decide) (by decide) ?_
        show Steps _ _ _ (T7.setTop (mkF mM 29 #[.val (.ref t), .val (.int d), .val (.int (Int32.ofNat f)), .val (.int (Int32.ofNat (cs).length))] [])) _
        refine XS.aloadN X7.here hx rfl (hb hby dj43_22_29) rfl rfl ?_
        show Steps _ _ _ (T7.setTop (mkF mM 30 #[.val (.ref t), .val (.int d), .val (.int (Int32.ofNat f)), .val (.int (Int32.ofNat (cs).length))] [(.ref t)])) _
        refine XS.iloadN X7.here hx rfl (hb hby dj43_22_30) rfl ?_
        show Steps _ _ _ (T7.setTop (mkF mM 31 #[.val (.ref t), .val (.int d), .val (.int (Int32.ofNat f)), .val (.int (Int32.ofNat (cs).length))] [(.int d), (.ref t)])) _
        refine XS.iloadN X7.here hx rfl (hb hby dj43_22_31) rfl ?_
        show Steps _ _ _ (T7.setTop (mkF mM 32 #[.val (.ref t), .val (.int d), .val (.int (Int32.ofNat f)), .val (.int (Int32.ofNat (cs).length))] [(.int (Int32.ofNat f)), (.int d), (.ref t)])) _
        refine XS.iloadN X7.here hx rfl (hb hby dj43_22_32) rfl ?_
        show Steps _ _ _ (T7.setTop (mkF mM 33 #[.val (.ref t), .val (.int d), .val (.int (Int32.ofNat f)), .val (.int (Int32.ofNat (cs).length))] [(.int (Int32.ofNat (cs).length)), (.int (Int32.ofNat f)), (.int d), (.ref t)])) _
        refine st10 _ ?_
        show Steps _ _ _ (T10.setTop (mkF mM 36 #[.val (.ref t), .val (.int d), .val (.int (Int32.ofNat f)), .val (.int (Int32.ofNat (cs).length))] [(.int (own_ixk cs d f (cs.length - f)))])) _
        exact retI X10 hx Bd.returns (hb hby dj43_22_36) hr
      · show Q_lix Z t kk cs d f h0 n0 _ T10.heap _
        rw [Kq10]
        exact ⟨rfl, rfl, rfl⟩
    · obtain ⟨fs, hr, hrun, hended, hW, hsame⟩ := X7.leave (v := some (.int (-1 : Int32))) (fun h => by rw [Bd.returns] at h; cases h)
      refine ⟨_, _, pre9 _ ?_, hrun, hended, _, _, rfl, ?_, ⟨_, rfl⟩, hW, hsame.mono (by decide) (by decide)⟩
      · refine XS.icmpNo X7.here hx rfl (hb hby dj43_22_24) rfl (flt hc8).1 ?_
        show Steps _ _ _ (T7.setTop (mkF mM 27 #[.val (.ref t), .val (.int d), .val (.int (Int32.ofNat f)), .val (.int (Int32.ofNat (cs).length))] [])) _
        refine XS.iconst X7.here hx rfl (hb hby dj43_22_27) ?_
        show Steps _ _ _ (T7.setTop (mkF mM 28 #[.val (.ref t), .val (.int d), .val (.int (Int32.ofNat f)), .val (.int (Int32.ofNat (cs).length))] [(.int (-1 : Int32))])) _
        exact retI X7 hx Bd.returns (hb hby dj43_22_28) hr
      · show Q_lix Z t kk cs d f h0 n0 _ T7.heap _
        rw [Kq7]
        exact ⟨(by have q := own_nltI hc8 (by omega) (by omega); rw [show cs.length - f = 0 by omega]; rfl), rfl, rfl⟩
theorem ef_io (m : MethodId) (x0 : Addr) (x1 : Int32) (x2 : Int32) : entryFrame m #[(.ref x0), (.int x1), (.int x2)] 3 = mkF m 0 #[.val (.ref x0), .val (.int x1), .val (.int x2)] [] := by first | (simp [entryFrame, mkF, argsToLocals, Value.category]; done) | rfl
def Q_io (Z : State) (x : Addr) (t : Addr) (kk : ClassId) (cs : List Int32) (d : Int32) (f : Nat) (zc : Int32) (fm : Value) (h0 : Heap) (n0 : Nat) (vV : Option Value) (h : Heap) (LL : List Loc) : Prop := vV = some (.int (own_ixk cs d f (cs.length - f))) ∧ LL = [] ∧ h = h0
set_option maxRecDepth 65536 in
set_option maxHeartbeats 40000000 in
theorem rm_io (l : Launch) (Z : State) (a0 : Array Value) (hw : ∀ d ∈ tables_1, d.before a0 Z = true) (ws : List Jvm.Cond) (x : Addr) (t : Addr) (kk : ClassId) (cs : List Int32) (d : Int32) (f : Nat) (zc : Int32) (fm : Value) (h0 : Heap) (n0 : Nat) (O0 : Old Z n0 h0) (Str_x : own_Str Z h0 x t kk cs) (hp1 : (f ≤ cs.length)) (S_COMPACT_STRINGS : Sta Z Z.heap "java/lang/String" "COMPACT_STRINGS" "Z" (.int zc)) (hp3 : (¬ (zc = (0 : Int32)))) (S_SIOOBE_FORMATTER : Sta Z Z.heap "jdk/internal/util/Preconditions" "SIOOBE_FORMATTER" "Ljava/util/function/BiFunction;" fm) (hp5 : (fm.isRef = true)) :
    MetFree l (⟨"java/lang/String", "indexOf", "(II)I"⟩ : MethodName) (head1 (Jvm.Cond.code (⟨"java/lang/String", "indexOf", "(II)I"⟩ : MethodName) jdk_42_method_80_code 3 (some .int) :: ws) (⟨2, 0, 0, 32⟩ : Room)) (fun aa_ U => aa_ = #[(.ref x), (.int d), (.int (Int32.ofNat f))] ∧ Z.Warmed39 U.vm ∧ U.heap = h0) (fun _ _ _ _ _ => True) (fun _ U o U' => ∃ vV LL, o = .returned vV ∧ Q_io Z x t kk cs d f zc fm h0 n0 vV U'.heap LL ∧ FrameEnd U o U' LL (⟨2, 0, 0, 32⟩ : Room).cells (⟨2, 0, 0, 32⟩ : Room).slots) := by
  refine MetFree.of_bodySF (plainFor_of_name pn_1) hisR ?_
  intro pP eE sS mM args below meth cC s₁ Bd hml0 hP hK
  obtain ⟨rfl, hZ, hh⟩ := hP
  have hx := Bd.exec
  have hby := Bd.bytes
  have hml : cC.maxLocals = 3 := hml0
  have hown : sS.vm.findClass "java/lang/String" = some mM.cls := findClass_of_methodNamed Bd.named
  have hnm := (name_of_methodNamed Bd.named Bd.method).1
  have X0 : Stand pP l eE (⟨2, 0, 0, 32⟩ : Room) sS mM #[(.ref x), (.int d), (.int (Int32.ofNat f))] below meth cC s₁ [] 0 0 := Stand.of_body Bd
  have e0 : s₁.heap = h0 := by rw [← hh, Bd.state]; rfl
  have N0 := Fr.nil n0
  have pre0 : ∀ tg, Steps pP.tables eE below (s₁.setTop (mkF mM 0 #[.val (.ref x), .val (.int d), .val (.int (Int32.ofNat f))] [])) tg → Steps pP.tables eE below (s₁.setTop (entryFrame mM #[(.ref x), (.int d), (.int (Int32.ofNat f))] 3)) tg := fun tg kg => castTop (ef_io mM x d (Int32.ofNat f)) kg
  obtain ⟨cq1, kq1, q1a, q1b, q1c⟩ := isOf hZ e0 (Str_x).1
  obtain ⟨_, _, ⟨T1, L1, k1, n1⟩, -, X1, ⟨Lc1, hQ1, l1, y1, z1⟩, st1⟩ := X0.virtualBack hx (y := (⟨"java/lang/String", "isLatin1", "()Z"⟩ : MethodName)) (z := (⟨"java/lang/String", "isLatin1", "()Z"⟩ : MethodName)) hown (mvT hZ (w_42 hw)) (mvT hZ (w_43 hw)) (notFace_of_selects (args := #[]) (mvT hZ (w_45 hw))) (mvT hZ (w_45 hw)) (mvT hZ (w_44 hw)) (by decide) (backOf (W := 0) (rm_lat l Z a0 hw [] x zc h0 n0 O0 (Str_x).2.2.1 S_COMPACT_STRINGS hp3) hZ (w_46 hw) (w_9 hw) (by decide) (by decide)) q1a q1c (g := (mkF mM 1 #[.val (.ref x), .val (.int d), .val (.int (Int32.ofNat f))] [(.ref x)])) rfl (by rw [hml]; rfl) (Steps.refl _) (argsL := []) (rest := []) (lenOf pd_9 rfl) rfl (by show 2 * 0 + _ ≤ _; exact Nat.le_of_eq rfl) (hb hby dj42_80_1) (fun _ _ => ⟨rfl, e0, (by decide : 0 + 0 ≤ _), (by decide : 0 + 0 ≤ _)⟩)
  dsimp only [Pt.U, Pt.locs, Pt.cells, Pt.slots] at X1 l1 y1 z1 st1 hQ1
  subst l1 y1 z1
  obtain ⟨rfl, rfl, Kq1⟩ := hQ1
  try rw [List.append_nil] at X1
  obtain ⟨T2, X2, e2, st2⟩ := getF X1 hx hZ hown (host := "") (Or.inl (w_26 hw)) Via.refl Kq1 (Str_x).2.1 (g := (mkF mM 8 #[.val (.ref x), .val (.int d), .val (.int (Int32.ofNat f))] [(.ref x)])) rfl rfl (hb hby dj42_80_8)
  obtain ⟨cq3, kq3, q3a, q3b, q3c⟩ := isOf hZ e2 (Str_x).1
  obtain ⟨_, _, ⟨T3, L3, k3, n3⟩, -, X3, ⟨Lc3, hQ3, l3, y3, z3⟩, st3⟩ := X2.virtualBack hx (y := (⟨"java/lang/String", "length", "()I"⟩ : MethodName)) (z := (⟨"java/lang/String", "length", "()I"⟩ : MethodName)) hown (mvT hZ (w_48 hw)) (mvT hZ (w_49 hw)) (notFace_of_selects (args := #[]) (mvT hZ (w_51 hw))) (mvT hZ (w_51 hw)) (mvT hZ (w_50 hw)) (by decide) (own_len (W := 3) hZ hw (⟨(Str_x).1, (Str_x).2.1, (Str_x).2.2.1, (Str_x).2.2.2.1, (Str_x).2.2.2.2⟩ : own_Str Z h0 x t kk cs) (Sta.ext (O0).2 S_COMPACT_STRINGS) hp3 (by decide) (by decide)) q3a q3c (g := (mkF mM 14 #[.val (.ref x), .val (.int d), .val (.int (Int32.ofNat f))] [(.ref x), (.int (Int32.ofNat f)), (.int d), (.ref t)])) rfl (by rw [hml]; rfl) (Steps.refl _) (argsL := []) (rest := [(.int (Int32.ofNat f)), (.int d), (.ref t)]) (lenOf pd_10 rfl) rfl (by show 2 * 0 + _ ≤ _; exact Nat.le_of_eq rfl) (hb hby dj42_80_14) (fun _ _ => ⟨rfl, e2, (by decide : 0 + 0 ≤ _), (by decide : 0 + 0 ≤ _)⟩)
  dsimp only [Pt.U, Pt.locs, Pt.cells, Pt.slots] at X3 l3 y3 z3 st3 hQ3
  subst l3 y3 z3
  obtain ⟨rfl, rfl, Kq3⟩ := hQ3
  try rw [List.append_nil] at X3
  obtain ⟨_, _, ⟨T4, L4, k4, n4⟩, -, X4, ⟨Lc4, hQ4, l4, y4, z4⟩, st4⟩ := Jvm.LawKit.callS X3 hx (y := (⟨"java/lang/StringLatin1", "indexOf", "([BIII)I"⟩ : MethodName)) hown (mvT hZ (w_58 hw)) (mvT hZ (w_59 hw)) (mvT hZ (w_60 hw)) (mvT hZ (w_61 hw)) (by decide) (backOf (W := 0) (rm_lix l Z a0 hw [] t kk cs d f h0 n0 O0 (Str_x).2.2.2.1 (Str_x.2.2.2.2.1 : cs.length ≤ 4000) (Str_x.2.2.2.2.2 : ∀ c ∈ cs, ¬ c < 0 ∧ ¬ (255 : Int32) < c) hp1) hZ (w_61 hw) (w_60 hw) (by decide) (by decide)) (g := (mkF mM 17 #[.val (.ref x), .val (.int d), .val (.int (Int32.ofNat f))] [(.int (Int32.ofNat (cs).length)), (.int (Int32.ofNat f)), (.int d), (.ref t)])) rfl (by rw [hml]; rfl) (argsL := [(.ref t), (.int d), (.int (Int32.ofNat f)), (.int (Int32.ofNat (cs).length))]) (rest := []) (lenOf pd_6 rfl) rfl (by show 2 * 0 + _ ≤ _; exact Nat.le_of_eq rfl) (hb hby dj42_80_17) (fun _ _ => ⟨rfl, Kq3, (by decide : 0 + 0 ≤ _), (by decide : 0 + 0 ≤ _)⟩)
  dsimp only [Pt.U, Pt.locs, Pt.cells, Pt.slots] at X4 l4 y4 z4 st4 hQ4
  subst l4 y4 z4
  obtain ⟨rfl, rfl, Kq4⟩ := hQ4
  try rw [List.append_nil] at X4
  obtain ⟨fs, hr, hrun, hended, hW, hsame⟩ := X4.leave (v := some (.int (own_ixk cs d f (cs.length - f)))) (fun h => by rw [Bd.returns] at h; cases h)
  refine ⟨_, _, pre0 _ ?_, hrun, hended, _, _, rfl, ?_, ⟨_, rfl⟩, hW, hsame.mono (by decide) (by decide)⟩
  · refine XS.aloadN X0.here hx rfl (hb hby dj42_80_0) rfl rfl ?_
    show Steps _ _ _ (s₁.setTop (mkF mM 1 #[.val (.ref x), .val (.int d), .val (.int (Int32.ofNat f))] [(.ref x)])) _
    refine st1.trans ?_
    show Steps _ _ _ (T1.setTop (mkF mM 4 #[.val (.ref x), .val (.int d), .val (.int (Int32.ofNat f))] [(.int 1)])) _
    refine XS.ifNo X1.here hx rfl (hb hby dj42_80_4) rfl ((if0 _ _).trans (feq (by decide : ¬ ((1 : Int32) = (0 : Int32)))).1) ?_
    show Steps _ _ _ (T1.setTop (mkF mM 7 #[.val (.ref x), .val (.int d), .val (.int (Int32.ofNat f))] [])) _
    refine XS.aloadN X1.here hx rfl (hb hby dj42_80_7) rfl rfl ?_
    show Steps _ _ _ (T1.setTop (mkF mM 8 #[.val (.ref x), .val (.int d), .val (.int (Int32.ofNat f))] [(.ref x)])) _
    refine st2 _ ?_
    show Steps _ _ _ (T2.setTop (mkF mM 11 #[.val (.ref x), .val (.int d), .val (.int (Int32.ofNat f))] [(.ref t)])) _
    refine XS.iloadN X2.here hx rfl (hb hby dj42_80_11) rfl ?_
    show Steps _ _ _ (T2.setTop (mkF mM 12 #[.val (.ref x), .val (.int d), .val (.int (Int32.ofNat f))] [(.int d), (.ref t)])) _
    refine XS.iloadN X2.here hx rfl (hb hby dj42_80_12) rfl ?_
    show Steps _ _ _ (T2.setTop (mkF mM 13 #[.val (.ref x), .val (.int d), .val (.int (Int32.ofNat f))] [(.int (Int32.ofNat f)), (.int d), (.ref t)])) _
    refine XS.aloadN X2.here hx rfl (hb hby dj42_80_13) rfl rfl ?_
    show Steps _ _ _ (T2.setTop (mkF mM 14 #[.val (.ref x), .val (.int d), .val (.int (Int32.ofNat f))] [(.ref x), (.int (Int32.ofNat f)), (.int d), (.ref t)])) _
    refine st3.trans ?_
    show Steps _ _ _ (T3.setTop (mkF mM 17 #[.val (.ref x), .val (.int d), .val (.int (Int32.ofNat f))] [(.int (Int32.ofNat (cs).length)), (.int (Int32.ofNat f)), (.int d), (.ref t)])) _
    refine st4 _ ?_
    show Steps _ _ _ (T4.setTop (mkF mM 20 #[.val (.ref x), .val (.int d), .val (.int (Int32.ofNat f))] [(.int (own_ixk cs d f (cs.length - f)))])) _
    refine XS.goto X4.here hx rfl (pc0 := 20) (pc' := 36) rfl (hb hby dj42_80_20) (by decide) (by decide) ?_
    show Steps _ _ _ (T4.setTop (mkF mM 36 #[.val (.ref x), .val (.int d), .val (.int (Int32.ofNat f))] [(.int (own_ixk cs d f (cs.length - f)))])) _
    exact retI X4 hx Bd.returns (hb hby dj42_80_36) hr
  · show Q_io Z x t kk cs d f zc fm h0 n0 _ T4.heap _
    rw [Kq4]
    exact ⟨rfl, rfl, rfl⟩
theorem ef_sioL (m : MethodId) (x0 : Addr) (x1 : Int32) : entryFrame m #[(.ref x0), (.int x1)] 2 = mkF m 0 #[.val (.ref x0), .val (.int x1)] [] := by first | (simp [entryFrame, mkF, argsToLocals, Value.category]; done) | rfl
def Q_sioL (Z : State) (x : Addr) (t : Addr) (kk : ClassId) (cs : List Int32) (d : Int32) (zc : Int32) (fm : Value) (h0 : Heap) (n0 : Nat) (vV : Option Value) (h : Heap) (LL : List Loc) : Prop := vV = some (.int (own_ixk cs d 0 (cs.length - 0))) ∧ LL = [] ∧ h = h0
set_option maxRecDepth 65536 in
set_option maxHeartbeats 40000000 in
theorem rm_sioL (l : Launch) (Z : State) (a0 : Array Value) (hw : ∀ d ∈ tables_1, d.before a0 Z = true) (ws : List Jvm.Cond) (x : Addr) (t : Addr) (kk : ClassId) (cs : List Int32) (d : Int32) (zc : Int32) (fm : Value) (h0 : Heap) (n0 : Nat) (O0 : Old Z n0 h0) (Str_x : own_Str Z h0 x t kk cs) (S_COMPACT_STRINGS : Sta Z Z.heap "java/lang/String" "COMPACT_STRINGS" "Z" (.int zc)) (hp2 : (¬ (zc = (0 : Int32)))) (S_SIOOBE_FORMATTER : Sta Z Z.heap "jdk/internal/util/Preconditions" "SIOOBE_FORMATTER" "Ljava/util/function/BiFunction;" fm) (hp4 : (fm.isRef = true)) :
    MetFree l (⟨"java/lang/String", "indexOf", "(I)I"⟩ : MethodName) (head1 (Jvm.Cond.code (⟨"java/lang/String", "indexOf", "(I)I"⟩ : MethodName) jdk_42_method_79_code 2 (some .int) :: ws) (⟨3, 0, 0, 46⟩ : Room)) (fun aa_ U => aa_ = #[(.ref x), (.int d)] ∧ Z.Warmed39 U.vm ∧ U.heap = h0) (fun _ _ _ _ _ => True) (fun _ U o U' => ∃ vV LL, o = .returned vV ∧ Q_sioL Z x t kk cs d zc fm h0 n0 vV U'.heap LL ∧ FrameEnd U o U' LL (⟨3, 0, 0, 46⟩ : Room).cells (⟨3, 0, 0, 46⟩ : Room).slots) := by
  refine MetFree.of_bodySF (plainFor_of_name pn_1) hisR ?_
  intro pP eE sS mM args below meth cC s₁ Bd hml0 hP hK
  obtain ⟨rfl, hZ, hh⟩ := hP
  have hx := Bd.exec
  have hby := Bd.bytes
  have hml : cC.maxLocals = 2 := hml0
  have hown : sS.vm.findClass "java/lang/String" = some mM.cls := findClass_of_methodNamed Bd.named
  have hnm := (name_of_methodNamed Bd.named Bd.method).1
  have X0 : Stand pP l eE (⟨3, 0, 0, 46⟩ : Room) sS mM #[(.ref x), (.int d)] below meth cC s₁ [] 0 0 := Stand.of_body Bd
  have e0 : s₁.heap = h0 := by rw [← hh, Bd.state]; rfl
  have N0 := Fr.nil n0
  have pre0 : ∀ tg, Steps pP.tables eE below (s₁.setTop (mkF mM 0 #[.val (.ref x), .val (.int d)] [])) tg → Steps pP.tables eE below (s₁.setTop (entryFrame mM #[(.ref x), (.int d)] 2)) tg := fun tg kg => castTop (ef_sioL mM x d) kg
  obtain ⟨cq1, kq1, q1a, q1b, q1c⟩ := isOf hZ e0 (Str_x).1
  obtain ⟨_, _, ⟨T1, L1, k1, n1⟩, -, X1, ⟨Lc1, hQ1, l1, y1, z1⟩, st1⟩ := X0.virtualBack hx (y := (⟨"java/lang/String", "indexOf", "(II)I"⟩ : MethodName)) (z := (⟨"java/lang/String", "indexOf", "(II)I"⟩ : MethodName)) hown (mvT hZ (w_37 hw)) (mvT hZ (w_38 hw)) (notFace_of_selects (args := #[]) (mvT hZ (w_40 hw))) (mvT hZ (w_40 hw)) (mvT hZ (w_39 hw)) (by decide) (backOf (W := 0) (rm_io l Z a0 hw [] x t kk cs d 0 zc fm h0 n0 O0 (⟨(Str_x).1, (Str_x).2.1, (Str_x).2.2.1, (Str_x).2.2.2.1, (Str_x).2.2.2.2⟩ : own_Str Z h0 x t kk cs) (Nat.zero_le _ : 0 ≤ cs.length) S_COMPACT_STRINGS hp2 S_SIOOBE_FORMATTER hp4) hZ (w_41 hw) (w_9 hw) (by decide) (by decide)) q1a q1c (g := (mkF mM 3 #[.val (.ref x), .val (.int d)] [(.int 0), (.int d), (.ref x)])) rfl (by rw [hml]; rfl) (Steps.refl _) (argsL := [(.int d), (.int 0)]) (rest := []) (lenOf pd_7 rfl) rfl (by show 2 * 0 + _ ≤ _; exact Nat.le_of_eq rfl) (hb hby dj42_79_3) (fun _ _ => ⟨rfl, e0, (by decide : 0 + 0 ≤ _), (by decide : 0 + 0 ≤ _)⟩)
  dsimp only [Pt.U, Pt.locs, Pt.cells, Pt.slots] at X1 l1 y1 z1 st1 hQ1
  subst l1 y1 z1
  obtain ⟨rfl, rfl, Kq1⟩ := hQ1
  try rw [List.append_nil] at X1
  obtain ⟨fs, hr, hrun, hended, hW, hsame⟩ := X1.leave (v := some (.int (own_ixk cs d 0 (cs.length - 0)))) (fun h => by rw [Bd.returns] at h; cases h)
  refine ⟨_, _, pre0 _ ?_, hrun, hended, _, _, rfl, ?_, ⟨_, rfl⟩, hW, hsame.mono (by decide) (by decide)⟩
  · refine XS.aloadN X0.here hx rfl (hb hby dj42_79_0) rfl rfl ?_
    show Steps _ _ _ (s₁.setTop (mkF mM 1 #[.val (.ref x), .val (.int d)] [(.ref x)])) _
    refine XS.iloadN X0.here hx rfl (hb hby dj42_79_1) rfl ?_
    show Steps _ _ _ (s₁.setTop (mkF mM 2 #[.val (.ref x), .val (.int d)] [(.int d), (.ref x)])) _
    refine XS.iconst X0.here hx rfl (hb hby dj42_79_2) ?_
    show Steps _ _ _ (s₁.setTop (mkF mM 3 #[.val (.ref x), .val (.int d)] [(.int 0), (.int d), (.ref x)])) _
    refine st1.trans ?_
    show Steps _ _ _ (T1.setTop (mkF mM 6 #[.val (.ref x), .val (.int d)] [(.int (own_ixk cs d 0 (cs.length - 0)))])) _
    exact retI X1 hx Bd.returns (hb hby dj42_79_6) hr
  · show Q_sioL Z x t kk cs d zc fm h0 n0 _ T1.heap _
    rw [Kq1]
    exact ⟨rfl, rfl, rfl⟩
theorem ef_glL (m : MethodId) (x0 : Addr) : entryFrame m #[(.ref x0)] 1 = mkF m 0 #[.val (.ref x0)] [] := by first | (simp [entryFrame, mkF, argsToLocals, Value.category]; done) | rfl
def Q_glL (Z : State) (x : Addr) (t : Addr) (kk : ClassId) (cs : List Int32) (zc : Int32) (fm : Value) (h0 : Heap) (n0 : Nat) (vV : Option Value) (h : Heap) (LL : List Loc) : Prop := vV = some (.int (own_gl cs (cs.length - 0))) ∧ LL = [] ∧ h = h0
set_option maxRecDepth 65536 in
set_option maxHeartbeats 40000000 in
theorem rm_glL (l : Launch) (Z : State) (a0 : Array Value) (hw : ∀ d ∈ tables_1, d.before a0 Z = true) (ws : List Jvm.Cond) (x : Addr) (t : Addr) (kk : ClassId) (cs : List Int32) (zc : Int32) (fm : Value) (h0 : Heap) (n0 : Nat) (O0 : Old Z n0 h0) (Str_x : own_Str Z h0 x t kk cs) (S_COMPACT_STRINGS : Sta Z Z.heap "java/lang/String" "COMPACT_STRINGS" "Z" (.int zc)) (hp2 : (¬ (zc = (0 : Int32)))) (S_SIOOBE_FORMATTER : Sta Z Z.heap "jdk/internal/util/Preconditions" "SIOOBE_FORMATTER" "Ljava/util/function/BiFunction;" fm) (hp4 : (fm.isRef = true)) :
    MetFree l (⟨"com/example/ullr/ullr/files/Glob", "isGlob", "(Ljava/lang/String;)Z"⟩ : MethodName) (head1 (Jvm.Cond.code (⟨"com/example/ullr/ullr/files/Glob", "isGlob", "(Ljava/lang/String;)Z"⟩ : MethodName) prog_20_method_2_code 1 (some .boolean) :: ws) (⟨4, 0, 0, 59⟩ : Room)) (fun aa_ U => aa_ = #[(.ref x)] ∧ Z.Warmed39 U.vm ∧ U.heap = h0) (fun _ _ _ _ _ => True) (fun _ U o U' => ∃ vV LL, o = .returned vV ∧ Q_glL Z x t kk cs zc fm h0 n0 vV U'.heap LL ∧ FrameEnd U o U' LL (⟨4, 0, 0, 59⟩ : Room).cells (⟨4, 0, 0, 59⟩ : Room).slots) := by
  refine MetFree.of_bodySF (plainFor_of_name pn_5) hisR ?_
  intro pP eE sS mM args below meth cC s₁ Bd hml0 hP hK
  obtain ⟨rfl, hZ, hh⟩ := hP
  have hx := Bd.exec
  have hby := Bd.bytes
  have hml : cC.maxLocals = 1 := hml0
  have hown : sS.vm.findClass "com/example/ullr/ullr/files/Glob" = some mM.cls := findClass_of_methodNamed Bd.named
  have hnm := (name_of_methodNamed Bd.named Bd.method).1
  have X0 : Stand pP l eE (⟨4, 0, 0, 59⟩ : Room) sS mM #[(.ref x)] below meth cC s₁ [] 0 0 := Stand.of_body Bd
  have e0 : s₁.heap = h0 := by rw [← hh, Bd.state]; rfl
  have N0 := Fr.nil n0
  have pre0 : ∀ tg, Steps pP.tables eE below (s₁.setTop (mkF mM 0 #[.val (.ref x)] [])) tg → Steps pP.tables eE below (s₁.setTop (entryFrame mM #[(.ref x)] 1)) tg := fun tg kg => castTop (ef_glL mM x) kg
  obtain ⟨cq1, kq1, q1a, q1b, q1c⟩ := isOf hZ e0 (Str_x).1
  obtain ⟨_, _, ⟨T1, L1, k1, n1⟩, -, X1, ⟨Lc1, hQ1, l1, y1, z1⟩, st1⟩ := X0.virtualBack hx (y := (⟨"java/lang/String", "indexOf", "(I)I"⟩ : MethodName)) (z := (⟨"java/lang/String", "indexOf", "(I)I"⟩ : MethodName)) hown (mvT hZ (w_32 hw)) (mvT hZ (w_33 hw)) (notFace_of_selects (args := #[]) (mvT hZ (w_35 hw))) (mvT hZ (w_35 hw)) (mvT hZ (w_34 hw)) (by decide) (backOf (W := 0) (rm_sioL l Z a0 hw [] x t kk cs (42 : Int32) zc fm h0 n0 O0 (⟨(Str_x).1, (Str_x).2.1, (Str_x).2.2.1, (Str_x).2.2.2.1, (Str_x).2.2.2.2⟩ : own_Str Z h0 x t kk cs) S_COMPACT_STRINGS hp2 S_SIOOBE_FORMATTER hp4) hZ (w_36 hw) (w_9 hw) (by decide) (by decide)) q1a q1c (g := (mkF mM 3 #[.val (.ref x)] [(.int 42), (.ref x)])) rfl (by rw [hml]; rfl) (Steps.refl _) (argsL := [(.int 42)]) (rest := []) (lenOf pd_0 rfl) rfl (by show 2 * 0 + _ ≤ _; exact Nat.le_of_eq rfl) (hb hby dp20_2_3) (fun _ _ => ⟨rfl, e0, (by decide : 0 + 0 ≤ _), (by decide : 0 + 0 ≤ _)⟩)
  dsimp only [Pt.U, Pt.locs, Pt.cells, Pt.slots] at X1 l1 y1 z1 st1 hQ1
  subst l1 y1 z1
  obtain ⟨rfl, rfl, Kq1⟩ := hQ1
  try rw [List.append_nil] at X1
  have pre3 : ∀ tg, Steps pP.tables eE below (T1.setTop (mkF mM 6 #[.val (.ref x)] [(.int (own_ixk cs (42 : Int32) 0 (cs.length - 0)))])) tg → Steps pP.tables eE below (s₁.setTop (entryFrame mM #[(.ref x)] 1)) tg := fun tg kg => pre0 tg (by
    refine XS.aloadN X0.here hx rfl (hb hby dp20_2_0) rfl rfl ?_
    show Steps _ _ _ (s₁.setTop (mkF mM 1 #[.val (.ref x)] [(.ref x)])) _
    refine XS.bipush X0.here hx rfl (hb hby dp20_2_1) ?_
    show Steps _ _ _ (s₁.setTop (mkF mM 3 #[.val (.ref x)] [(.int 42), (.ref x)])) _
    refine st1.trans ?_
    exact kg)
  by_cases hc2 : (own_ixk cs (42 : Int32) 0 (cs.length - 0)) < (0 : Int32)
  · obtain ⟨cq4, kq4, q4a, q4b, q4c⟩ := isOf hZ Kq1 (Str_x).1
    obtain ⟨_, _, ⟨T4, L4, k4, n4⟩, -, X4, ⟨Lc4, hQ4, l4, y4, z4⟩, st4⟩ := X1.virtualBack hx (y := (⟨"java/lang/String", "indexOf", "(I)I"⟩ : MethodName)) (z := (⟨"java/lang/String", "indexOf", "(I)I"⟩ : MethodName)) hown (mvT hZ (w_32 hw)) (mvT hZ (w_33 hw)) (notFace_of_selects (args := #[]) (mvT hZ (w_35 hw))) (mvT hZ (w_35 hw)) (mvT hZ (w_34 hw)) (by decide) (backOf (W := 0) (rm_sioL l Z a0 hw [] x t kk cs (63 : Int32) zc fm h0 n0 O0 (⟨(Str_x).1, (Str_x).2.1, (Str_x).2.2.1, (Str_x).2.2.2.1, (Str_x).2.2.2.2⟩ : own_Str Z h0 x t kk cs) S_COMPACT_STRINGS hp2 S_SIOOBE_FORMATTER hp4) hZ (w_36 hw) (w_9 hw) (by decide) (by decide)) q4a q4c (g := (mkF mM 12 #[.val (.ref x)] [(.int 63), (.ref x)])) rfl (by rw [hml]; rfl) (Steps.refl _) (argsL := [(.int 63)]) (rest := []) (lenOf pd_0 rfl) rfl (by show 2 * 0 + _ ≤ _; exact Nat.le_of_eq rfl) (hb hby dp20_2_12) (fun _ _ => ⟨rfl, Kq1, (by decide : 0 + 0 ≤ _), (by decide : 0 + 0 ≤ _)⟩)
    dsimp only [Pt.U, Pt.locs, Pt.cells, Pt.slots] at X4 l4 y4 z4 st4 hQ4
    subst l4 y4 z4
    obtain ⟨rfl, rfl, Kq4⟩ := hQ4
    try rw [List.append_nil] at X4
    have pre6 : ∀ tg, Steps pP.tables eE below (T4.setTop (mkF mM 15 #[.val (.ref x)] [(.int (own_ixk cs (63 : Int32) 0 (cs.length - 0)))])) tg → Steps pP.tables eE below (s₁.setTop (entryFrame mM #[(.ref x)] 1)) tg := fun tg kg => pre3 tg (by
      refine XS.ifNo X1.here hx rfl (hb hby dp20_2_6) rfl ((if0 _ _).trans (tlt hc2).2.1) ?_
      show Steps _ _ _ (T1.setTop (mkF mM 9 #[.val (.ref x)] [])) _
      refine XS.aloadN X1.here hx rfl (hb hby dp20_2_9) rfl rfl ?_
      show Steps _ _ _ (T1.setTop (mkF mM 10 #[.val (.ref x)] [(.ref x)])) _
      refine XS.bipush X1.here hx rfl (hb hby dp20_2_10) ?_
      show Steps _ _ _ (T1.setTop (mkF mM 12 #[.val (.ref x)] [(.int 63), (.ref x)])) _
      refine st4.trans ?_
      exact kg)
    by_cases hc5 : (own_ixk cs (63 : Int32) 0 (cs.length - 0)) < (0 : Int32)
    · obtain ⟨fs, hr, hrun, hended, hW, hsame⟩ := X4.leave (v := some (.int 0)) (fun h => by rw [Bd.returns] at h; cases h)
      refine ⟨_, _, pre6 _ ?_, hrun, hended, _, _, rfl, ?_, ⟨_, rfl⟩, hW, hsame.mono (by decide) (by decide)⟩
      · refine XS.ifYes X4.here hx rfl (pc0 := 15) (pc' := 22) rfl (hb hby dp20_2_15) rfl ((if0 _ _).trans (tlt hc5).1) (by decide) (by decide) ?_
        show Steps _ _ _ (T4.setTop (mkF mM 22 #[.val (.ref x)] [])) _
        refine XS.iconst X4.here hx rfl (hb hby dp20_2_22) ?_
        show Steps _ _ _ (T4.setTop (mkF mM 23 #[.val (.ref x)] [(.int 0)])) _
        exact retN X4 hx (t := .boolean) Bd.returns (by simp) (hb hby dp20_2_23) hr
      · show Q_glL Z x t kk cs zc fm h0 n0 _ T4.heap _
        rw [Kq4]
        exact ⟨(by rw [own_gl, if_pos hc2, if_pos hc5]), rfl, rfl⟩
    · obtain ⟨fs, hr, hrun, hended, hW, hsame⟩ := X4.leave (v := some (.int 1)) (fun h => by rw [Bd.returns] at h; cases h)
      refine ⟨_, _, pre6 _ ?_, hrun, hended, _, _, rfl, ?_, ⟨_, rfl⟩, hW, hsame.mono (by decide) (by decide)⟩
      · refine XS.ifNo X4.here hx rfl (hb hby dp20_2_15) rfl ((if0 _ _).trans (flt hc5).1) ?_
        show Steps _ _ _ (T4.setTop (mkF mM 18 #[.val (.ref x)] [])) _
        refine XS.iconst X4.here hx rfl (hb hby dp20_2_18) ?_
        show Steps _ _ _ (T4.setTop (mkF mM 19 #[.val (.ref x)] [(.int 1)])) _
        refine XS.goto X4.here hx rfl (pc0 := 19) (pc' := 23) rfl (hb hby dp20_2_19) (by decide) (by decide) ?_
        show Steps _ _ _ (T4.setTop (mkF mM 23 #[.val (.ref x)] [(.int 1)])) _
        exact retN X4 hx (t := .boolean) Bd.returns (by simp) (hb hby dp20_2_23) hr
      · show Q_glL Z x t kk cs zc fm h0 n0 _ T4.heap _
        rw [Kq4]
        exact ⟨(by rw [own_gl, if_pos hc2, if_neg hc5]), rfl, rfl⟩
  · obtain ⟨fs, hr, hrun, hended, hW, hsame⟩ := X1.leave (v := some (.int 1)) (fun h => by rw [Bd.returns] at h; cases h)
    refine ⟨_, _, pre3 _ ?_, hrun, hended, _, _, rfl, ?_, ⟨_, rfl⟩, hW, hsame.mono (by decide) (by decide)⟩
    · refine XS.ifYes X1.here hx rfl (pc0 := 6) (pc' := 18) rfl (hb hby dp20_2_6) rfl ((if0 _ _).trans (flt hc2).2.1) (by decide) (by decide) ?_
      show Steps _ _ _ (T1.setTop (mkF mM 18 #[.val (.ref x)] [])) _
      refine XS.iconst X1.here hx rfl (hb hby dp20_2_18) ?_
      show Steps _ _ _ (T1.setTop (mkF mM 19 #[.val (.ref x)] [(.int 1)])) _
      refine XS.goto X1.here hx rfl (pc0 := 19) (pc' := 23) rfl (hb hby dp20_2_19) (by decide) (by decide) ?_
      show Steps _ _ _ (T1.setTop (mkF mM 23 #[.val (.ref x)] [(.int 1)])) _
      exact retN X1 hx (t := .boolean) Bd.returns (by simp) (hb hby dp20_2_23) hr
    · show Q_glL Z x t kk cs zc fm h0 n0 _ T1.heap _
      rw [Kq1]
      exact ⟨(by rw [own_gl, if_neg hc2]), rfl, rfl⟩
theorem ef_glU (m : MethodId) (x0 : Addr) : entryFrame m #[(.ref x0)] 1 = mkF m 0 #[.val (.ref x0)] [] := by first | (simp [entryFrame, mkF, argsToLocals, Value.category]; done) | rfl
def Q_glU (Z : State) (x : Addr) (t : Addr) (k : ClassId) (n : Nat) (cs : List Int32) (zc : Int32) (fm : Value) (h0 : Heap) (n0 : Nat) (vV : Option Value) (h : Heap) (LL : List Loc) : Prop := vV = some (.int (own_gl cs n)) ∧ LL = [] ∧ h = h0
set_option maxRecDepth 65536 in
set_option maxHeartbeats 40000000 in
theorem rm_glU (l : Launch) (Z : State) (a0 : Array Value) (hw : ∀ d ∈ tables_1, d.before a0 Z = true) (ws : List Jvm.Cond) (x : Addr) (t : Addr) (k : ClassId) (n : Nat) (cs : List Int32) (zc : Int32) (fm : Value) (h0 : Heap) (n0 : Nat) (O0 : Old Z n0 h0) (E_x : Exa Z h0 x "java/lang/String") (F_x_value : Fld Z h0 x "java/lang/String" "value" "[B" (.ref t)) (F_x_coder : Fld Z h0 x "java/lang/String" "coder" "B" (.int 1)) (V_t : Arv Z h0 t k .byte (Int32.ofNat (2 * n)) (own_u16 cs) (.int 0)) (hp4 : (cs.length = n ∧ n ≤ 4)) (hp5 : (∀ c ∈ cs, ¬ c < 0 ∧ ¬ (65535 : Int32) < c)) (S__assertionsDisabled : Sta Z Z.heap "java/lang/StringUTF16" "$assertionsDisabled" "Z" (.int 1)) (S_HI_BYTE_SHIFT : Sta Z Z.heap "java/lang/StringUTF16" "HI_BYTE_SHIFT" "I" (.int 0)) (S_LO_BYTE_SHIFT : Sta Z Z.heap "java/lang/StringUTF16" "LO_BYTE_SHIFT" "I" (.int 8)) (S_COMPACT_STRINGS : Sta Z Z.heap "java/lang/String" "COMPACT_STRINGS" "Z" (.int zc)) (hp10 : (¬ (zc = (0 : Int32)))) (S_SIOOBE_FORMATTER : Sta Z Z.heap "jdk/internal/util/Preconditions" "SIOOBE_FORMATTER" "Ljava/util/function/BiFunction;" fm) (hp12 : (fm.isRef = true)) (hp13 : (0 < n)) :
    MetFree l (⟨"com/example/ullr/ullr/files/Glob", "isGlob", "(Ljava/lang/String;)Z"⟩ : MethodName) (head1 (Jvm.Cond.code (⟨"com/example/ullr/ullr/files/Glob", "isGlob", "(Ljava/lang/String;)Z"⟩ : MethodName) prog_20_method_2_code 1 (some .boolean) :: ws) (⟨7, 0, 0, 100⟩ : Room)) (fun aa_ U => aa_ = #[(.ref x)] ∧ Z.Warmed39 U.vm ∧ U.heap = h0) (fun _ _ _ _ _ => True) (fun _ U o U' => ∃ vV LL, o = .returned vV ∧ Q_glU Z x t k n cs zc fm h0 n0 vV U'.heap LL ∧ FrameEnd U o U' LL (⟨7, 0, 0, 100⟩ : Room).cells (⟨7, 0, 0, 100⟩ : Room).slots) := by
  refine MetFree.of_bodySF (plainFor_of_name pn_5) hisR ?_
  intro pP eE sS mM args below meth cC s₁ Bd hml0 hP hK
  obtain ⟨rfl, hZ, hh⟩ := hP
  have hx := Bd.exec
  have hby := Bd.bytes
  have hml : cC.maxLocals = 1 := hml0
  have hown : sS.vm.findClass "com/example/ullr/ullr/files/Glob" = some mM.cls := findClass_of_methodNamed Bd.named
  have hnm := (name_of_methodNamed Bd.named Bd.method).1
  have X0 : Stand pP l eE (⟨7, 0, 0, 100⟩ : Room) sS mM #[(.ref x)] below meth cC s₁ [] 0 0 := Stand.of_body Bd
  have e0 : s₁.heap = h0 := by rw [← hh, Bd.state]; rfl
  have N0 := Fr.nil n0
  have pre0 : ∀ tg, Steps pP.tables eE below (s₁.setTop (mkF mM 0 #[.val (.ref x)] [])) tg → Steps pP.tables eE below (s₁.setTop (entryFrame mM #[(.ref x)] 1)) tg := fun tg kg => castTop (ef_glU mM x) kg
  obtain ⟨cq1, kq1, q1a, q1b, q1c⟩ := isOf hZ e0 E_x
  obtain ⟨_, _, ⟨T1, L1, k1, n1⟩, -, X1, ⟨Lc1, hQ1, l1, y1, z1⟩, st1⟩ := X0.virtualBack hx (y := (⟨"java/lang/String", "indexOf", "(I)I"⟩ : MethodName)) (z := (⟨"java/lang/String", "indexOf", "(I)I"⟩ : MethodName)) hown (mvT hZ (w_32 hw)) (mvT hZ (w_33 hw)) (notFace_of_selects (args := #[]) (mvT hZ (w_35 hw))) (mvT hZ (w_35 hw)) (mvT hZ (w_34 hw)) (by decide) (backOf (W := 0) (rm_sio1 l Z a0 hw [] x t k n cs (42 : Int32) zc fm h0 n0 O0 E_x F_x_value F_x_coder V_t (hp4 : cs.length = n ∧ n ≤ 4) (hp5 : ∀ c ∈ cs, ¬ c < 0 ∧ ¬ (65535 : Int32) < c) S__assertionsDisabled S_HI_BYTE_SHIFT S_LO_BYTE_SHIFT S_COMPACT_STRINGS hp10 S_SIOOBE_FORMATTER hp12 hp13 (by decide : (42 : Int32) < (65536 : Int32))) hZ (w_36 hw) (w_9 hw) (by decide) (by decide)) q1a q1c (g := (mkF mM 3 #[.val (.ref x)] [(.int 42), (.ref x)])) rfl (by rw [hml]; rfl) (Steps.refl _) (argsL := [(.int 42)]) (rest := []) (lenOf pd_0 rfl) rfl (by show 2 * 0 + _ ≤ _; exact Nat.le_of_eq rfl) (hb hby dp20_2_3) (fun _ _ => ⟨rfl, e0, (by decide : 0 + 0 ≤ _), (by decide : 0 + 0 ≤ _)⟩)
  dsimp only [Pt.U, Pt.locs, Pt.cells, Pt.slots] at X1 l1 y1 z1 st1 hQ1
  subst l1 y1 z1
  obtain ⟨rfl, rfl, Kq1⟩ := hQ1
  try rw [List.append_nil] at X1
  have pre3 : ∀ tg, Steps pP.tables eE below (T1.setTop (mkF mM 6 #[.val (.ref x)] [(.int (own_ixk cs (42 : Int32) 0 n))])) tg → Steps pP.tables eE below (s₁.setTop (entryFrame mM #[(.ref x)] 1)) tg := fun tg kg => pre0 tg (by
    refine XS.aloadN X0.here hx rfl (hb hby dp20_2_0) rfl rfl ?_
    show Steps _ _ _ (s₁.setTop (mkF mM 1 #[.val (.ref x)] [(.ref x)])) _
    refine XS.bipush X0.here hx rfl (hb hby dp20_2_1) ?_
    show Steps _ _ _ (s₁.setTop (mkF mM 3 #[.val (.ref x)] [(.int 42), (.ref x)])) _
    refine st1.trans ?_
    exact kg)
  by_cases hc2 : (own_ixk cs (42 : Int32) 0 n) < (0 : Int32)
  · obtain ⟨cq4, kq4, q4a, q4b, q4c⟩ := isOf hZ Kq1 E_x
    obtain ⟨_, _, ⟨T4, L4, k4, n4⟩, -, X4, ⟨Lc4, hQ4, l4, y4, z4⟩, st4⟩ := X1.virtualBack hx (y := (⟨"java/lang/String", "indexOf", "(I)I"⟩ : MethodName)) (z := (⟨"java/lang/String", "indexOf", "(I)I"⟩ : MethodName)) hown (mvT hZ (w_32 hw)) (mvT hZ (w_33 hw)) (notFace_of_selects (args := #[]) (mvT hZ (w_35 hw))) (mvT hZ (w_35 hw)) (mvT hZ (w_34 hw)) (by decide) (backOf (W := 0) (rm_sio1 l Z a0 hw [] x t k n cs (63 : Int32) zc fm h0 n0 O0 E_x F_x_value F_x_coder V_t (hp4 : cs.length = n ∧ n ≤ 4) (hp5 : ∀ c ∈ cs, ¬ c < 0 ∧ ¬ (65535 : Int32) < c) S__assertionsDisabled S_HI_BYTE_SHIFT S_LO_BYTE_SHIFT S_COMPACT_STRINGS hp10 S_SIOOBE_FORMATTER hp12 hp13 (by decide : (63 : Int32) < (65536 : Int32))) hZ (w_36 hw) (w_9 hw) (by decide) (by decide)) q4a q4c (g := (mkF mM 12 #[.val (.ref x)] [(.int 63), (.ref x)])) rfl (by rw [hml]; rfl) (Steps.refl _) (argsL := [(.int 63)]) (rest := []) (lenOf pd_0 rfl) rfl (by show 2 * 0 + _ ≤ _; exact Nat.le_of_eq rfl) (hb hby dp20_2_12) (fun _ _ => ⟨rfl, Kq1, (by decide : 0 + 0 ≤ _), (by decide : 0 + 0 ≤ _)⟩)
    dsimp only [Pt.U, Pt.locs, Pt.cells, Pt.slots] at X4 l4 y4 z4 st4 hQ4
    subst l4 y4 z4
    obtain ⟨rfl, rfl, Kq4⟩ := hQ4
    try rw [List.append_nil] at X4
    have pre6 : ∀ tg, Steps pP.tables eE below (T4.setTop (mkF mM 15 #[.val (.ref x)] [(.int (own_ixk cs (63 : Int32) 0 n))])) tg → Steps pP.tables eE below (s₁.setTop (entryFrame mM #[(.ref x)] 1)) tg := fun tg kg => pre3 tg (by
      refine XS.ifNo X1.here hx rfl (hb hby dp20_2_6) rfl ((if0 _ _).trans (tlt hc2).2.1) ?_
      show Steps _ _ _ (T1.setTop (mkF mM 9 #[.val (.ref x)] [])) _
      refine XS.aloadN X1.here hx rfl (hb hby dp20_2_9) rfl rfl ?_
      show Steps _ _ _ (T1.setTop (mkF mM 10 #[.val (.ref x)] [(.ref x)])) _
      refine XS.bipush X1.here hx rfl (hb hby dp20_2_10) ?_
      show Steps _ _ _ (T1.setTop (mkF mM 12 #[.val (.ref x)] [(.int 63), (.ref x)])) _
      refine st4.trans ?_
      exact kg)
    by_cases hc5 : (own_ixk cs (63 : Int32) 0 n) < (0 : Int32)
    · obtain ⟨fs, hr, hrun, hended, hW, hsame⟩ := X4.leave (v := some (.int 0)) (fun h => by rw [Bd.returns] at h; cases h)
      refine ⟨_, _, pre6 _ ?_, hrun, hended, _, _, rfl, ?_, ⟨_, rfl⟩, hW, hsame.mono (by decide) (by decide)⟩
      · refine XS.ifYes X4.here hx rfl (pc0 := 15) (pc' := 22) rfl (hb hby dp20_2_15) rfl ((if0 _ _).trans (tlt hc5).1) (by decide) (by decide) ?_
        show Steps _ _ _ (T4.setTop (mkF mM 22 #[.val (.ref x)] [])) _
        refine XS.iconst X4.here hx rfl (hb hby dp20_2_22) ?_
        show Steps _ _ _ (T4.setTop (mkF mM 23 #[.val (.ref x)] [(.int 0)])) _
        exact retN X4 hx (t := .boolean) Bd.returns (by simp) (hb hby dp20_2_23) hr
      · show Q_glU Z x t k n cs zc fm h0 n0 _ T4.heap _
        rw [Kq4]
        exact ⟨(by rw [own_gl, if_pos hc2, if_pos hc5]), rfl, rfl⟩
    · obtain ⟨fs, hr, hrun, hended, hW, hsame⟩ := X4.leave (v := some (.int 1)) (fun h => by rw [Bd.returns] at h; cases h)
      refine ⟨_, _, pre6 _ ?_, hrun, hended, _, _, rfl, ?_, ⟨_, rfl⟩, hW, hsame.mono (by decide) (by decide)⟩
      · refine XS.ifNo X4.here hx rfl (hb hby dp20_2_15) rfl ((if0 _ _).trans (flt hc5).1) ?_
        show Steps _ _ _ (T4.setTop (mkF mM 18 #[.val (.ref x)] [])) _
        refine XS.iconst X4.here hx rfl (hb hby dp20_2_18) ?_
        show Steps _ _ _ (T4.setTop (mkF mM 19 #[.val (.ref x)] [(.int 1)])) _
        refine XS.goto X4.here hx rfl (pc0 := 19) (pc' := 23) rfl (hb hby dp20_2_19) (by decide) (by decide) ?_
        show Steps _ _ _ (T4.setTop (mkF mM 23 #[.val (.ref x)] [(.int 1)])) _
        exact retN X4 hx (t := .boolean) Bd.returns (by simp) (hb hby dp20_2_23) hr
      · show Q_glU Z x t k n cs zc fm h0 n0 _ T4.heap _
        rw [Kq4]
        exact ⟨(by rw [own_gl, if_pos hc2, if_neg hc5]), rfl, rfl⟩
  · obtain ⟨fs, hr, hrun, hended, hW, hsame⟩ := X1.leave (v := some (.int 1)) (fun h => by rw [Bd.returns] at h; cases h)
    refine ⟨_, _, pre3 _ ?_, hrun, hended, _, _, rfl, ?_, ⟨_, rfl⟩, hW, hsame.mono (by decide) (by decide)⟩
    · refine XS.ifYes X1.here hx rfl (pc0 := 6) (pc' := 18) rfl (hb hby dp20_2_6) rfl ((if0 _ _).trans (flt hc2).2.1) (by decide) (by decide) ?_
      show Steps _ _ _ (T1.setTop (mkF mM 18 #[.val (.ref x)] [])) _
      refine XS.iconst X1.here hx rfl (hb hby dp20_2_18) ?_
      show Steps _ _ _ (T1.setTop (mkF mM 19 #[.val (.ref x)] [(.int 1)])) _
      refine XS.goto X1.here hx rfl (pc0 := 19) (pc' := 23) rfl (hb hby dp20_2_19) (by decide) (by decide) ?_
      show Steps _ _ _ (T1.setTop (mkF mM 23 #[.val (.ref x)] [(.int 1)])) _
      exact retN X1 hx (t := .boolean) Bd.returns (by simp) (hb hby dp20_2_23) hr
    · show Q_glU Z x t k n cs zc fm h0 n0 _ T1.heap _
      rw [Kq1]
      exact ⟨(by rw [own_gl, if_neg hc2]), rfl, rfl⟩
theorem ef_se4 (m : MethodId) (x0 : Addr) (x1 : Addr) (x2 : Int32) (x3 : Int32) : entryFrame m #[(.ref x0), (.ref x1), (.int x2), (.int x3), .null] 6 = mkF m 0 #[.val (.ref x0), .val (.ref x1), .val (.int x2), .val (.int x3), .val .null, .unset] [] := by first | (simp [entryFrame, mkF, argsToLocals, Value.category]; done) | rfl
def Q_se4 (Z : State) (x : Addr) (b : Addr) (u1 : Value) (u2 : Value) (h0 : Heap) (n0 : Nat) (vV : Option Value) (h : Heap) (LL : List Loc) (vM : Vm) : Prop := ∃ (t : Addr) (k : ClassId), vV = none ∧ Fr n0 LL ∧ Keep h0 h [x] ∧ own_Str Z h x t k []
set_option maxRecDepth 65536 in
set_option maxHeartbeats 40000000 in
theorem rm_se4 (l : Launch) (Z : State) (a0 : Array Value) (hw : ∀ d ∈ tables_1, d.before a0 Z = true) (ws : List Jvm.Cond) (x : Addr) (b : Addr) (u1 : Value) (u2 : Value) (h0 : Heap) (n0 : Nat) (O0 : Old Z n0 h0) (E_x : Exa Z h0 x "java/lang/String") (F_x_value : Fld Z h0 x "java/lang/String" "value" "[B" u1) (F_x_coder : Fld Z h0 x "java/lang/String" "coder" "B" u2) (g_x : n0 ≤ x) :
    MetFree l (⟨"java/lang/String", "<init>", "([CIILjava/lang/Void;)V"⟩ : MethodName) (head1 (Jvm.Cond.code (⟨"java/lang/String", "<init>", "([CIILjava/lang/Void;)V"⟩ : MethodName) jdk_42_method_149_code 6 none :: ws) (⟨1, 4, 8, 12⟩ : Room)) (fun aa_ U => aa_ = #[(.ref x), (.ref b), (.int 0), (.int 0), .null] ∧ Z.Warmed39 U.vm ∧ U.heap = h0 ∧ CHv Z own_EL U.vm h0 ∧ ∀ xX_ ∈ ([x] : List Addr), Safe Z own_EL U.vm h0 xX_) (fun _ _ _ _ _ => True) (fun _ U o U' => ∃ vV LL, o = .returned vV ∧ Q_se4 Z x b u1 u2 h0 n0 vV U'.heap LL U'.vm ∧ CHr Z own_EL U.vm U.heap U'.vm U'.heap ∧ ReturnedEndW U o U' LL (⟨1, 4, 8, 12⟩ : Room).cells (⟨1, 4, 8, 12⟩ : Room).slots) := by
  refine MetFree.of_bodySF (plainFor_of_name pn_1) hisR ?_
  intro pP eE sS mM args below meth cC s₁ Bd hml0 hP hK
  obtain ⟨rfl, hZ, hh, hCH, hSf⟩ := hP
  have hx := Bd.exec
  have hby := Bd.bytes
  have hml : cC.maxLocals = 6 := hml0
  have hown : sS.vm.findClass "java/lang/String" = some mM.cls := findClass_of_methodNamed Bd.named
  have hnm := (name_of_methodNamed Bd.named Bd.method).1
  have X0 : Stand pP l eE (⟨1, 4, 8, 12⟩ : Room) (sS.setVm sS.vm) mM #[(.ref x), (.ref b), (.int 0), (.int 0), .null] below meth cC s₁ [] 0 0 := Stand.of_body Bd
  have e0 : s₁.heap = h0 := by rw [← hh, Bd.state]; rfl
  have N0 := Fr.nil n0
  have pre0 : ∀ tg, Steps pP.tables eE below (s₁.setTop (mkF mM 0 #[.val (.ref x), .val (.ref b), .val (.int 0), .val (.int 0), .val .null, .unset] [])) tg → Steps pP.tables eE below (s₁.setTop (entryFrame mM #[(.ref x), (.ref b), (.int 0), (.int 0), .null] 6)) tg := fun tg kg => castTop (ef_se4 mM x b (0 : Int32) (0 : Int32)) kg
  have K0 : Keep h0 h0 [x] := Keep.refl _ _
  have hZ0 : Z.Warmed39 (sS.setVm sS.vm).vm := hZ
  have hown0 : (sS.setVm sS.vm).vm.findClass "java/lang/String" = some mM.cls := hown
  have hS0 : sS.Since sS.vm 0 := (State.WarmedH.refl sS).since 0
  have hk0 : 0 ≤ h0.size := Nat.zero_le _
  have CH0 : CHr Z own_EL sS.vm h0 sS.vm h0 := CHr.refl hCH
  have hEL := own_EW hw
  have wS := own_wS hw
  have Sf_x : Safe Z own_EL sS.vm h0 x := hSf _ (List.mem_of_getElem? (i := 0) rfl)
  obtain ⟨T1, X1, e1, st1⟩ := initO X0 hx hZ0 hown0 (w_17 hw) (w_18 hw) (w_19 hw) e0 (g := (mkF mM 1 #[.val (.ref x), .val (.ref b), .val (.int 0), .val (.int 0), .val .null, .unset] [(.ref x)])) rfl (by rw [hml]; rfl) rfl (hb hby dj42_149_1) (by decide) (W := 0) (by show 2 * 0 + _ ≤ _; exact Nat.le_of_eq rfl) (by decide)
  obtain ⟨a2, T2, h2, k2, b2, kb2, X2, e2, E2, hS2, hk2, hZ2, hown2, La2, Lb2, Lc2, Ld2, -, -, CHl2, Lit2, Ls2, st2⟩ := ldcCH X1 hx hZ0 hown0 (w_20 hw) wS e1 hS0 hk0 hEL (List.mem_of_getElem? (i := 0) rfl) CH0.1 (vs := []) (z := 0) ⟨by decide, by decide⟩ (by decide) rfl (g := (mkF mM 9 #[.val (.ref x), .val (.ref b), .val (.int 0), .val (.int 0), .val .null, .unset] [(.ref x)])) rfl (hb hby dj42_149_9) (n := 0) (by decide) (by decide) (by decide) (by decide)
  have CH3 : CHr Z own_EL sS.vm h0 T2.vm h2 := CH0.trans (CHl2)
  skip
  have K5 : Keep h0 h2 [x] := K0.ext E2
  have f7 := (CHr.safe CHl2 (E_x).lt Sf_x)
  have ln6 := Ls2 _ f7
  obtain ⟨T8, X8, e8, st8⟩ := getF X2 hx hZ2 hown2 (host := "") (Or.inl (w_26 hw)) Via.refl e2 Lc2 (g := (mkF mM 11 #[.val (.ref x), .val (.ref b), .val (.int 0), .val (.int 0), .val .null, .unset] [(.ref a2), (.ref x)])) rfl rfl (hb hby dj42_149_11)
  have f9 := (F_x_value.ext E2)
  have f10 := (E_x.ext E2)
  obtain ⟨T11, h11, X11, e11, W11, st11⟩ := putF X8 hx hZ2 hown2 (host := "") (Or.inl (w_26 hw)) Via.refl e8 f9 f10 (Or.inr ⟨(w_22 hw), rfl, hnm⟩) (w_8 hw) (ty := (.array .byte)) (by decide) rfl rfl (g := (mkF mM 14 #[.val (.ref x), .val (.ref b), .val (.int 0), .val (.int 0), .val .null, .unset] [(.ref b2), (.ref x)])) rfl rfl (hb hby dj42_149_14)
  have sfp13 := f7
  have CH12 : CHr Z own_EL sS.vm h0 T2.vm h11 := CH3.trans (CHr.wr W11 sfp13 CH3.1)
  have hk14 := Nat.le_trans hk2 (Nat.le_of_eq W11.size.symm)
  have K15 : Keep h0 h11 [x] := K5.wr W11 (Or.inl (List.mem_of_getElem? (i := 0) rfl))
  have Fw11 : Fld Z h11 x "java/lang/String" "value" "[B" (.ref b2) := f9.same W11
  have N11 := Fr.snoc X11 N0 g_x
  obtain ⟨a16, T16, h16, k16, b16, kb16, X16, e16, E16, hS16, hk16, hZ16, hown16, La16, Lb16, Lc16, Ld16, -, -, CHl16, Lit16, Ls16, st16⟩ := ldcCH X11 hx hZ2 hown2 (w_20 hw) wS e11 hS2 hk14 hEL (List.mem_of_getElem? (i := 0) rfl) CH12.1 (vs := []) (z := 0) ⟨by decide, by decide⟩ (by decide) rfl (g := (mkF mM 18 #[.val (.ref x), .val (.ref b), .val (.int 0), .val (.int 0), .val .null, .unset] [(.ref x)])) rfl (hb hby dj42_149_18) (n := 0) (by decide) (by decide) (by decide) (by decide)
  have CH17 : CHr Z own_EL sS.vm h0 T16.vm h16 := CH12.trans (CHl16)
  skip
  have K19 : Keep h0 h16 [x] := K15.ext E16
  have f21 := (CHr.safe CHl16 (Nat.lt_of_lt_of_le (Nat.lt_of_lt_of_le (E_x).lt E2.1) (Nat.le_of_eq W11.size.symm)) (Safe.wr W11 sfp13 CH3.1 f7))
  have ln20 := Ls16 _ f21
  obtain ⟨T22, X22, e22, st22⟩ := getF X16 hx hZ16 hown16 (host := "") (Or.inl (w_27 hw)) Via.refl e16 Lb16 (g := (mkF mM 20 #[.val (.ref x), .val (.ref b), .val (.int 0), .val (.int 0), .val .null, .unset] [(.ref a16), (.ref x)])) rfl rfl (hb hby dj42_149_20)
  have f23 := (((F_x_coder.ext E2).other W11 (Or.inr (slot_ne (Or.inr (w_23 hw)) (Or.inr (w_22 hw)) (by decide) (t := .byte) (t' := (.array .byte)) (by decide) (by decide)))).ext E16)
  have f24 := ((f10.wr W11).ext E16)
  obtain ⟨T25, h25, X25, e25, W25, st25⟩ := putFN X22 hx hZ16 hown16 (w_27 hw) Via.refl e22 f23 f24 (Or.inr ⟨(w_23 hw), rfl, hnm⟩) (w_8 hw) (ty := .byte) (v' := (.int (nar .byte (0 : Int32)))) (by decide) rfl (fits_nar_byte _) (g := (mkF mM 23 #[.val (.ref x), .val (.ref b), .val (.int 0), .val (.int 0), .val .null, .unset] [(.int 0), (.ref x)])) rfl rfl (hb hby dj42_149_23)
  have sfp27 := f21
  have CH26 : CHr Z own_EL sS.vm h0 T16.vm h25 := CH17.trans (CHr.wr W25 sfp27 CH17.1)
  have hk28 := Nat.le_trans hk16 (Nat.le_of_eq W25.size.symm)
  have K29 : Keep h0 h25 [x] := K19.wr W25 (Or.inl (List.mem_of_getElem? (i := 0) rfl))
  have Fw25 : Fld Z h25 x "java/lang/String" "coder" "B" (.int 0) := f23.same W25
  have N25 := Fr.snoc X25 N11 g_x
  have f31 := (f24.wr W25)
  have f32 := ((Fw11.ext E16).other W25 (Or.inr (slot_ne (Or.inr (w_22 hw)) (Or.inr (w_23 hw)) (by decide) (t := (.array .byte)) (t' := .byte) (by decide) (by decide))))
  have f33 := (((Ld2.other W11 (Ne.symm ln6.2)).ext E16).other W25 (Ne.symm ln6.2))
  obtain ⟨fs, hr, hrun, hended, hR1, hR2, hR3, hR4⟩ := Stand.leaveW (s := sS) (vm₁ := T16.vm) X25 hS16 (by rw [e25]; exact hk28) (v := none) (fun _ => rfl)
  refine ⟨_, _, pre0 _ ?_, hrun, hended, _, _, rfl, ?_, ?_, hR1, hR2, hR3, hR4.mono (by decide) (by decide)⟩
  · refine XS.aloadN X0.here hx rfl (hb hby dj42_149_0) rfl rfl ?_
    show Steps _ _ _ (s₁.setTop (mkF mM 1 #[.val (.ref x), .val (.ref b), .val (.int 0), .val (.int 0), .val .null, .unset] [(.ref x)])) _
    refine st1 _ ?_
    show Steps _ _ _ (T1.setTop (mkF mM 4 #[.val (.ref x), .val (.ref b), .val (.int 0), .val (.int 0), .val .null, .unset] [])) _
    refine XS.iloadN X1.here hx rfl (hb hby dj42_149_4) rfl ?_
    show Steps _ _ _ (T1.setTop (mkF mM 5 #[.val (.ref x), .val (.ref b), .val (.int 0), .val (.int 0), .val .null, .unset] [(.int 0)])) _
    refine XS.ifNo X1.here hx rfl (hb hby dj42_149_5) rfl ((if0 _ _).trans (teq (by decide : (0 : Int32) = (0 : Int32))).2) ?_
    show Steps _ _ _ (T1.setTop (mkF mM 8 #[.val (.ref x), .val (.ref b), .val (.int 0), .val (.int 0), .val .null, .unset] [])) _
    refine XS.aloadN X1.here hx rfl (hb hby dj42_149_8) rfl rfl ?_
    show Steps _ _ _ (T1.setTop (mkF mM 9 #[.val (.ref x), .val (.ref b), .val (.int 0), .val (.int 0), .val .null, .unset] [(.ref x)])) _
    refine st2 _ ?_
    show Steps _ _ _ (T2.setTop (mkF mM 11 #[.val (.ref x), .val (.ref b), .val (.int 0), .val (.int 0), .val .null, .unset] [(.ref a2), (.ref x)])) _
    refine st8 _ ?_
    show Steps _ _ _ (T8.setTop (mkF mM 14 #[.val (.ref x), .val (.ref b), .val (.int 0), .val (.int 0), .val .null, .unset] [(.ref b2), (.ref x)])) _
    refine st11 _ ?_
    show Steps _ _ _ (T11.setTop (mkF mM 17 #[.val (.ref x), .val (.ref b), .val (.int 0), .val (.int 0), .val .null, .unset] [])) _
    refine XS.aloadN X11.here hx rfl (hb hby dj42_149_17) rfl rfl ?_
    show Steps _ _ _ (T11.setTop (mkF mM 18 #[.val (.ref x), .val (.ref b), .val (.int 0), .val (.int 0), .val .null, .unset] [(.ref x)])) _
    refine st16 _ ?_
    show Steps _ _ _ (T16.setTop (mkF mM 20 #[.val (.ref x), .val (.ref b), .val (.int 0), .val (.int 0), .val .null, .unset] [(.ref a16), (.ref x)])) _
    refine st22 _ ?_
    show Steps _ _ _ (T22.setTop (mkF mM 23 #[.val (.ref x), .val (.ref b), .val (.int 0), .val (.int 0), .val .null, .unset] [(.int 0), (.ref x)])) _
    refine st25 _ ?_
    show Steps _ _ _ (T25.setTop (mkF mM 26 #[.val (.ref x), .val (.ref b), .val (.int 0), .val (.int 0), .val .null, .unset] [])) _
    exact X25.returnOut hx Bd.returns (hb hby dj42_149_26) hr
  · show Q_se4 Z x b u1 u2 h0 n0 _ T25.heap _ T25.vm
    rw [e25]
    exact ⟨b2, kb2, rfl, N25, K29, (⟨f31, f32, Fw25, f33, (⟨by decide, by decide⟩ : ([] : List Int32).length ≤ 4000 ∧ ∀ c ∈ ([] : List Int32), ¬ c < 0 ∧ ¬ (255 : Int32) < c)⟩ : own_Str Z h25 x b2 kb2 [])⟩
  · show CHr Z own_EL sS.vm sS.heap T25.vm T25.heap
    rw [hh, e25]
    exact CH26.trans (CHv.at X25 hZ16 hEL CH26.1)
theorem ef_se1 (m : MethodId) (x0 : Addr) (x1 : Addr) : entryFrame m #[(.ref x0), (.ref x1)] 2 = mkF m 0 #[.val (.ref x0), .val (.ref x1)] [] := by first | (simp [entryFrame, mkF, argsToLocals, Value.category]; done) | rfl
def Q_se1 (Z : State) (x : Addr) (b : Addr) (u1 : Value) (u2 : Value) (kb : ClassId) (h0 : Heap) (n0 : Nat) (vV : Option Value) (h : Heap) (LL : List Loc) (vM : Vm) : Prop := ∃ (t : Addr) (k : ClassId), vV = none ∧ Fr n0 LL ∧ Keep h0 h [x] ∧ own_Str Z h x t k []
set_option maxRecDepth 65536 in
set_option maxHeartbeats 40000000 in
theorem rm_se1 (l : Launch) (Z : State) (a0 : Array Value) (hw : ∀ d ∈ tables_1, d.before a0 Z = true) (ws : List Jvm.Cond) (x : Addr) (b : Addr) (u1 : Value) (u2 : Value) (kb : ClassId) (h0 : Heap) (n0 : Nat) (O0 : Old Z n0 h0) (E_x : Exa Z h0 x "java/lang/String") (F_x_value : Fld Z h0 x "java/lang/String" "value" "[B" u1) (F_x_coder : Fld Z h0 x "java/lang/String" "coder" "B" u2) (g_x : n0 ≤ x) (V_b : Arv Z h0 b kb .char (0 : Int32) [] (.int 0)) :
    MetFree l (⟨"java/lang/String", "<init>", "([C)V"⟩ : MethodName) (head1 (Jvm.Cond.code (⟨"java/lang/String", "<init>", "([C)V"⟩ : MethodName) jdk_42_method_3_code 2 none :: ws) (⟨2, 4, 8, 29⟩ : Room)) (fun aa_ U => aa_ = #[(.ref x), (.ref b)] ∧ Z.Warmed39 U.vm ∧ U.heap = h0 ∧ CHv Z own_EL U.vm h0 ∧ ∀ xX_ ∈ ([x] : List Addr), Safe Z own_EL U.vm h0 xX_) (fun _ _ _ _ _ => True) (fun _ U o U' => ∃ vV LL, o = .returned vV ∧ Q_se1 Z x b u1 u2 kb h0 n0 vV U'.heap LL U'.vm ∧ CHr Z own_EL U.vm U.heap U'.vm U'.heap ∧ ReturnedEndW U o U' LL (⟨2, 4, 8, 29⟩ : Room).cells (⟨2, 4, 8, 29⟩ : Room).slots) := by
  refine MetFree.of_bodySF (plainFor_of_name pn_1) hisR ?_
  intro pP eE sS mM args below meth cC s₁ Bd hml0 hP hK
  obtain ⟨rfl, hZ, hh, hCH, hSf⟩ := hP
  have hx := Bd.exec
  have hby := Bd.bytes
  have hml : cC.maxLocals = 2 := hml0
  have hown : sS.vm.findClass "java/lang/String" = some mM.cls := findClass_of_methodNamed Bd.named
  have hnm := (name_of_methodNamed Bd.named Bd.method).1
  have X0 : Stand pP l eE (⟨2, 4, 8, 29⟩ : Room) (sS.setVm sS.vm) mM #[(.ref x), (.ref b)] below meth cC s₁ [] 0 0 := Stand.of_body Bd
  have e0 : s₁.heap = h0 := by rw [← hh, Bd.state]; rfl
  have N0 := Fr.nil n0
  have pre0 : ∀ tg, Steps pP.tables eE below (s₁.setTop (mkF mM 0 #[.val (.ref x), .val (.ref b)] [])) tg → Steps pP.tables eE below (s₁.setTop (entryFrame mM #[(.ref x), (.ref b)] 2)) tg := fun tg kg => castTop (ef_se1 mM x b) kg
  have K0 : Keep h0 h0 [x] := Keep.refl _ _
  have hZ0 : Z.Warmed39 (sS.setVm sS.vm).vm := hZ
  have hown0 : (sS.setVm sS.vm).vm.findClass "java/lang/String" = some mM.cls := hown
  have hS0 : sS.Since sS.vm 0 := (State.WarmedH.refl sS).since 0
  have hk0 : 0 ≤ h0.size := Nat.zero_le _
  have CH0 : CHr Z own_EL sS.vm h0 sS.vm h0 := CHr.refl hCH
  have hEL := own_EW hw
  have wS := own_wS hw
  have Sf_x : Safe Z own_EL sS.vm h0 x := hSf _ (List.mem_of_getElem? (i := 0) rfl)
  obtain ⟨cl1, Ar1, -, S1, Nn1, -, -⟩ := id V_b
  obtain ⟨_, _, ⟨T2, L2, k2, n2⟩, -, X2, hS22, hg22, ⟨Lc2, hQ2, l2, y2, z2, CHl2⟩, st2⟩ := X0.specialBackS hx (y := (⟨"java/lang/String", "<init>", "([CIILjava/lang/Void;)V"⟩ : MethodName)) rfl hown0 (mvT hZ0 (w_13 hw)) (mvT hZ0 (w_14 hw)) (mvT hZ0 (w_16 hw)) (by decide) (own_backOfSH (s := sS) (vm0 := sS.vm) (rm := (⟨1, 4, 8, 12⟩ : Room)) (W := 0) (rm_se4 l Z a0 hw [] x b u1 u2 h0 n0 O0 E_x F_x_value F_x_coder g_x) hZ0 (w_16 hw) (w_9 hw) (by decide) (by decide) hEL CH0.1 (own_sfS (E_x).lt Sf_x own_sf0)) (g := (mkF mM 6 #[.val (.ref x), .val (.ref b)] [.null, (.int 0), (.int 0), (.ref b), (.ref x)])) rfl (by rw [hml]; rfl) (Steps.refl _) (a := x) (argsL := [(.ref b), (.int 0), (.int 0), .null]) (rest := []) (lenOf pd_16 rfl) rfl (by show 2 * 0 + _ ≤ _; exact Nat.le_of_eq rfl) (hb hby dj42_3_6) (fun _ _ => ⟨rfl, e0, (by decide : 0 + 4 ≤ _), (by decide : 0 + 8 ≤ _)⟩)
  dsimp only [Pt.U, Pt.locs, Pt.cells, Pt.slots] at X2 l2 y2 z2 st2 hQ2 hS22 hg22 CHl2
  subst l2 y2 z2
  have hS2 := foldS hS0 (by rw [e0]; exact hk0) hS22 hg22
  have hZ2 : Z.Warmed39 (sS.setVm T2.vm).vm := State.Warmed39.trans (t := sS.setVm sS.vm) hZ0 hS22.1
  have hown2 : (sS.setVm T2.vm).vm.findClass "java/lang/String" = some mM.cls := by rw [show (sS.setVm T2.vm).vm = T2.vm from rfl, hS22.1.alike.findClass]; exact hown0
  have hk2 : T2.heap.size ≤ T2.heap.size := Nat.le_refl _
  replace X2 : Stand pP l eE (⟨2, 4, 8, 29⟩ : Room) (sS.setVm T2.vm) mM _ below meth cC T2 _ _ _ := X2
  obtain ⟨t_2, k_2, rfl, Nq2, Kq2, q2_0⟩ := hQ2
  have N2 := Fr.app N0 Nq2
  have CH3 : CHr Z own_EL sS.vm h0 T2.vm T2.heap := CH0.trans (CHl2)
  skip
  have K5 : Keep h0 T2.heap [x] := K0.trans Kq2 (allS (Or.inl (List.mem_of_getElem? (i := 0) rfl)) all0)
  obtain ⟨fs, hr, hrun, hended, hR1, hR2, hR3, hR4⟩ := Stand.leaveW (s := sS) (vm₁ := T2.vm) X2 hS2 (hk2) (v := none) (fun _ => rfl)
  refine ⟨_, _, pre0 _ ?_, hrun, hended, _, _, rfl, ?_, ?_, hR1, hR2, hR3, hR4.mono (by decide) (by decide)⟩
  · refine XS.aloadN X0.here hx rfl (hb hby dj42_3_0) rfl rfl ?_
    show Steps _ _ _ (s₁.setTop (mkF mM 1 #[.val (.ref x), .val (.ref b)] [(.ref x)])) _
    refine XS.aloadN X0.here hx rfl (hb hby dj42_3_1) rfl rfl ?_
    show Steps _ _ _ (s₁.setTop (mkF mM 2 #[.val (.ref x), .val (.ref b)] [(.ref b), (.ref x)])) _
    refine XS.iconst X0.here hx rfl (hb hby dj42_3_2) ?_
    show Steps _ _ _ (s₁.setTop (mkF mM 3 #[.val (.ref x), .val (.ref b)] [(.int 0), (.ref b), (.ref x)])) _
    refine XS.aloadN X0.here hx rfl (hb hby dj42_3_3) rfl rfl ?_
    show Steps _ _ _ (s₁.setTop (mkF mM 4 #[.val (.ref x), .val (.ref b)] [(.ref b), (.int 0), (.ref b), (.ref x)])) _
    refine X0.arraylength hx (by rw [e0]; exact Ar1.1) (State.isArrayOf_alike hZ0.alike Ar1.2.1) (g := (mkF mM 4 #[.val (.ref x), .val (.ref b)] [(.ref b), (.int 0), (.ref b), (.ref x)])) rfl rfl (hb hby dj42_3_4) _ ?_
    rw [len_of S1 Nn1]
    show Steps _ _ _ (s₁.setTop (mkF mM 5 #[.val (.ref x), .val (.ref b)] [(.int 0), (.int 0), (.ref b), (.ref x)])) _
    refine XS.aconstNull X0.here hx rfl (hb hby dj42_3_5) ?_
    show Steps _ _ _ (s₁.setTop (mkF mM 6 #[.val (.ref x), .val (.ref b)] [.null, (.int 0), (.int 0), (.ref b), (.ref x)])) _
    refine st2.trans ?_
    show Steps _ _ _ (T2.setTop (mkF mM 9 #[.val (.ref x), .val (.ref b)] [])) _
    exact X2.returnOut hx Bd.returns (hb hby dj42_3_9) hr
  · show Q_se1 Z x b u1 u2 kb h0 n0 _ T2.heap _ T2.vm
    exact ⟨t_2, k_2, rfl, N2, K5, (⟨(q2_0).1, (q2_0).2.1, (q2_0).2.2.1, (q2_0).2.2.2.1, (q2_0).2.2.2.2⟩ : own_Str Z T2.heap x t_2 k_2 [])⟩
  · show CHr Z own_EL sS.vm sS.heap T2.vm T2.heap
    rw [hh]
    exact CH3.trans (CHv.at X2 hZ2 hEL CH3.1)
theorem ef_law (m : MethodId) (x0 : Int32) (x1 : Int32) (x2 : Int32) (x3 : Int32) (x4 : Int32) : entryFrame m #[(.int x0), (.int x1), (.int x2), (.int x3), (.int x4)] maxLocals = mkF m 0 #[.val (.int x0), .val (.int x1), .val (.int x2), .val (.int x3), .val (.int x4), .unset, .unset, .unset, .unset, .unset, .unset, .unset, .unset] [] := by first | (simp [entryFrame, mkF, argsToLocals, Value.category, maxLocals]; done) | rfl
def Q_law (Z : State) (p0 : Int32) (p1 : Int32) (p2 : Int32) (p3 : Int32) (p4 : Int32) (zc : Int32) (fm : Value) (h0 : Heap) (n0 : Nat) (vV : Option Value) (h : Heap) (LL : List Loc) (vM : Vm) : Prop := vV = some (.int 1) ∧ Fr n0 LL ∧ Keep h0 h []
set_option maxRecDepth 65536 in
set_option maxHeartbeats 40000000 in
theorem rm_law (l : Launch) (Z : State) (a0 : Array Value) (hw : ∀ d ∈ tables_1, d.before a0 Z = true) (ws : List Jvm.Cond) (p0 : Int32) (p1 : Int32) (p2 : Int32) (p3 : Int32) (p4 : Int32) (zc : Int32) (fm : Value) (h0 : Heap) (n0 : Nat) (O0 : Old Z n0 h0) (S_COMPACT_STRINGS : Sta Z Z.heap "java/lang/String" "COMPACT_STRINGS" "Z" (.int zc)) (hp1 : (¬ (zc = (0 : Int32)))) (S_SIOOBE_FORMATTER : Sta Z Z.heap "jdk/internal/util/Preconditions" "SIOOBE_FORMATTER" "Ljava/util/function/BiFunction;" fm) (hp3 : (fm.isRef = true)) (S__assertionsDisabled : Sta Z Z.heap "java/lang/StringUTF16" "$assertionsDisabled" "Z" (.int 1)) (S_HI_BYTE_SHIFT : Sta Z Z.heap "java/lang/StringUTF16" "HI_BYTE_SHIFT" "I" (.int 0)) (S_LO_BYTE_SHIFT : Sta Z Z.heap "java/lang/StringUTF16" "LO_BYTE_SHIFT" "I" (.int 8)) :
    MetFree l x (head1 (Jvm.Cond.code x code maxLocals ret :: ws) room_1) (fun aa_ U => aa_ = #[(.int p0), (.int p1), (.int p2), (.int p3), (.int p4)] ∧ Z.Warmed39 U.vm ∧ U.heap = h0 ∧ CHv Z own_EL U.vm h0 ∧ ∀ xX_ ∈ ([] : List Addr), Safe Z own_EL U.vm h0 xX_) (fun _ _ _ _ _ => True) (fun _ U o U' => ∃ vV LL, o = .returned vV ∧ Q_law Z p0 p1 p2 p3 p4 zc fm h0 n0 vV U'.heap LL U'.vm ∧ CHr Z own_EL U.vm U.heap U'.vm U'.heap ∧ ReturnedEndW U o U' LL room_1.cells room_1.slots) := by
  refine MetFree.of_bodySF (plainFor_of_name pn_4) hisR ?_
  intro pP eE sS mM args below meth cC s₁ Bd hml0 hP hK
  obtain ⟨rfl, hZ, hh, hCH, hSf⟩ := hP
  have hx := Bd.exec
  have hby := Bd.bytes
  have hml : cC.maxLocals = 13 := hml0
  have hown : sS.vm.findClass "com/example/ullr/ullr/files/GlobIsGlobPinLaw" = some mM.cls := findClass_of_methodNamed Bd.named
  have hnm := (name_of_methodNamed Bd.named Bd.method).1
  have X0 : Stand pP l eE room_1 (sS.setVm sS.vm) mM #[(.int p0), (.int p1), (.int p2), (.int p3), (.int p4)] below meth cC s₁ [] 0 0 := Stand.of_body Bd
  have e0 : s₁.heap = h0 := by rw [← hh, Bd.state]; rfl
  have N0 := Fr.nil n0
  have pre0 : ∀ tg, Steps pP.tables eE below (s₁.setTop (mkF mM 0 #[.val (.int p0), .val (.int p1), .val (.int p2), .val (.int p3), .val (.int p4), .unset, .unset, .unset, .unset, .unset, .unset, .unset, .unset] [])) tg → Steps pP.tables eE below (s₁.setTop (entryFrame mM #[(.int p0), (.int p1), (.int p2), (.int p3), (.int p4)] maxLocals)) tg := fun tg kg => castTop (ef_law mM p0 p1 p2 p3 p4) kg
  have K0 : Keep h0 h0 [] := Keep.refl _ _
  have hZ0 : Z.Warmed39 (sS.setVm sS.vm).vm := hZ
  have hown0 : (sS.setVm sS.vm).vm.findClass "com/example/ullr/ullr/files/GlobIsGlobPinLaw" = some mM.cls := hown
  have hS0 : sS.Since sS.vm 0 := (State.WarmedH.refl sS).since 0
  have hk0 : 0 ≤ h0.size := Nat.zero_le _
  have CH0 : CHr Z own_EL sS.vm h0 sS.vm h0 := CHr.refl hCH
  have hEL := own_EW hw
  have wS := own_wS hw
  obtain ⟨nl, hnl, hnc⟩ := own_mod5b p0
  let Ls1 : Array Slot := #[.val (.int p0), .val (.int p1), .val (.int p2), .val (.int p3), .val (.int p4), .val (.int nl), .unset, .unset, .unset, .unset, .unset, .unset, .unset]
  obtain ⟨_, _, ⟨T2, L2, k2, n2⟩, -, X2, ⟨Lc2, hQ2, l2, y2, z2⟩, st2⟩ := Jvm.LawKit.callS X0 hx (y := (⟨"com/example/ullr/ullr/files/GlobIsGlobPinLaw", "draw", "(I)C"⟩ : MethodName)) hown0 (mvT hZ0 (w_1 hw)) (mvT hZ0 (w_2 hw)) (mvT hZ0 (w_3 hw)) (mvT hZ0 (w_4 hw)) (by decide) (backOf (W := 0) (rm_draw l Z a0 hw [] p1 h0 n0 O0 ) hZ0 (w_4 hw) (w_3 hw) (by decide) (by decide)) (g := (mkF mM 9 Ls1 [(.int p1)])) rfl (by rw [hml]; rfl) (argsL := [(.int p1)]) (rest := []) (lenOf pd_18 rfl) rfl (by show 2 * 0 + _ ≤ _; exact Nat.le_of_eq rfl) (hb hby at_9) (fun _ _ => ⟨rfl, e0, (by decide : 0 + 0 ≤ _), (by decide : 0 + 0 ≤ _)⟩)
  dsimp only [Pt.U, Pt.locs, Pt.cells, Pt.slots] at X2 l2 y2 z2 st2 hQ2
  subst l2 y2 z2
  obtain ⟨rfl, rfl, Kq2⟩ := hQ2
  try rw [List.append_nil] at X2
  obtain ⟨x0, hx0⟩ : ∃ z, z = (own_dw p1) := ⟨_, rfl⟩
  have hxb0 : ¬ x0 < 0 ∧ ¬ (65535 : Int32) < x0 := hx0 ▸ own_dwb _
  let Ls3 : Array Slot := #[.val (.int p0), .val (.int p1), .val (.int p2), .val (.int p3), .val (.int p4), .val (.int nl), .val (.int x0), .unset, .unset, .unset, .unset, .unset, .unset]
  obtain ⟨_, _, ⟨T4, L4, k4, n4⟩, -, X4, ⟨Lc4, hQ4, l4, y4, z4⟩, st4⟩ := Jvm.LawKit.callS X2 hx (y := (⟨"com/example/ullr/ullr/files/GlobIsGlobPinLaw", "draw", "(I)C"⟩ : MethodName)) hown0 (mvT hZ0 (w_1 hw)) (mvT hZ0 (w_2 hw)) (mvT hZ0 (w_3 hw)) (mvT hZ0 (w_4 hw)) (by decide) (backOf (W := 0) (rm_draw l Z a0 hw [] p2 h0 n0 O0 ) hZ0 (w_4 hw) (w_3 hw) (by decide) (by decide)) (g := (mkF mM 15 Ls3 [(.int p2)])) rfl (by rw [hml]; rfl) (argsL := [(.int p2)]) (rest := []) (lenOf pd_18 rfl) rfl (by show 2 * 0 + _ ≤ _; exact Nat.le_of_eq rfl) (hb hby at_15) (fun _ _ => ⟨rfl, Kq2, (by decide : 0 + 0 ≤ _), (by decide : 0 + 0 ≤ _)⟩)
  dsimp only [Pt.U, Pt.locs, Pt.cells, Pt.slots] at X4 l4 y4 z4 st4 hQ4
  subst l4 y4 z4
  obtain ⟨rfl, rfl, Kq4⟩ := hQ4
  try rw [List.append_nil] at X4
  obtain ⟨x1, hx1⟩ : ∃ z, z = (own_dw p2) := ⟨_, rfl⟩
  have hxb1 : ¬ x1 < 0 ∧ ¬ (65535 : Int32) < x1 := hx1 ▸ own_dwb _
  let Ls5 : Array Slot := #[.val (.int p0), .val (.int p1), .val (.int p2), .val (.int p3), .val (.int p4), .val (.int nl), .val (.int x0), .val (.int x1), .unset, .unset, .unset, .unset, .unset]
  obtain ⟨_, _, ⟨T6, L6, k6, n6⟩, -, X6, ⟨Lc6, hQ6, l6, y6, z6⟩, st6⟩ := Jvm.LawKit.callS X4 hx (y := (⟨"com/example/ullr/ullr/files/GlobIsGlobPinLaw", "draw", "(I)C"⟩ : MethodName)) hown0 (mvT hZ0 (w_1 hw)) (mvT hZ0 (w_2 hw)) (mvT hZ0 (w_3 hw)) (mvT hZ0 (w_4 hw)) (by decide) (backOf (W := 0) (rm_draw l Z a0 hw [] p3 h0 n0 O0 ) hZ0 (w_4 hw) (w_3 hw) (by decide) (by decide)) (g := (mkF mM 21 Ls5 [(.int p3)])) rfl (by rw [hml]; rfl) (argsL := [(.int p3)]) (rest := []) (lenOf pd_18 rfl) rfl (by show 2 * 0 + _ ≤ _; exact Nat.le_of_eq rfl) (hb hby at_21) (fun _ _ => ⟨rfl, Kq4, (by decide : 0 + 0 ≤ _), (by decide : 0 + 0 ≤ _)⟩)
  dsimp only [Pt.U, Pt.locs, Pt.cells, Pt.slots] at X6 l6 y6 z6 st6 hQ6
  subst l6 y6 z6
  obtain ⟨rfl, rfl, Kq6⟩ := hQ6
  try rw [List.append_nil] at X6
  obtain ⟨x2, hx2⟩ : ∃ z, z = (own_dw p3) := ⟨_, rfl⟩
  have hxb2 : ¬ x2 < 0 ∧ ¬ (65535 : Int32) < x2 := hx2 ▸ own_dwb _
  let Ls7 : Array Slot := #[.val (.int p0), .val (.int p1), .val (.int p2), .val (.int p3), .val (.int p4), .val (.int nl), .val (.int x0), .val (.int x1), .val (.int x2), .unset, .unset, .unset, .unset]
  obtain ⟨_, _, ⟨T8, L8, k8, n8⟩, -, X8, ⟨Lc8, hQ8, l8, y8, z8⟩, st8⟩ := Jvm.LawKit.callS X6 hx (y := (⟨"com/example/ullr/ullr/files/GlobIsGlobPinLaw", "draw", "(I)C"⟩ : MethodName)) hown0 (mvT hZ0 (w_1 hw)) (mvT hZ0 (w_2 hw)) (mvT hZ0 (w_3 hw)) (mvT hZ0 (w_4 hw)) (by decide) (backOf (W := 0) (rm_draw l Z a0 hw [] p4 h0 n0 O0 ) hZ0 (w_4 hw) (w_3 hw) (by decide) (by decide)) (g := (mkF mM 28 Ls7 [(.int p4)])) rfl (by rw [hml]; rfl) (argsL := [(.int p4)]) (rest := []) (lenOf pd_18 rfl) rfl (by show 2 * 0 + _ ≤ _; exact Nat.le_of_eq rfl) (hb hby at_28) (fun _ _ => ⟨rfl, Kq6, (by decide : 0 + 0 ≤ _), (by decide : 0 + 0 ≤ _)⟩)
  dsimp only [Pt.U, Pt.locs, Pt.cells, Pt.slots] at X8 l8 y8 z8 st8 hQ8
  subst l8 y8 z8
  obtain ⟨rfl, rfl, Kq8⟩ := hQ8
  try rw [List.append_nil] at X8
  obtain ⟨x3, hx3⟩ : ∃ z, z = (own_dw p4) := ⟨_, rfl⟩
  have hxb3 : ¬ x3 < 0 ∧ ¬ (65535 : Int32) < x3 := hx3 ▸ own_dwb _
  let Ls9 : Array Slot := #[.val (.int p0), .val (.int p1), .val (.int p2), .val (.int p3), .val (.int p4), .val (.int nl), .val (.int x0), .val (.int x1), .val (.int x2), .val (.int x3), .unset, .unset, .unset]
  have pre10 : ∀ tg, Steps pP.tables eE below (T8.setTop (mkF mM 33 Ls9 [])) tg → Steps pP.tables eE below (s₁.setTop (entryFrame mM #[(.int p0), (.int p1), (.int p2), (.int p3), (.int p4)] maxLocals)) tg := fun tg kg => pre0 tg (by
    refine XS.iloadN X0.here hx rfl (hb hby at_0) rfl ?_
    show Steps _ _ _ (s₁.setTop (mkF mM 1 #[.val (.int p0), .val (.int p1), .val (.int p2), .val (.int p3), .val (.int p4), .unset, .unset, .unset, .unset, .unset, .unset, .unset, .unset] [(.int p0)])) _
    refine X0.ldcInt hx hown0 (mvT hZ0 (w_0 hw)) (g := (mkF mM 1 #[.val (.int p0), .val (.int p1), .val (.int p2), .val (.int p3), .val (.int p4), .unset, .unset, .unset, .unset, .unset, .unset, .unset, .unset] [(.int p0)])) rfl (hb hby at_1) _ ?_
    show Steps _ _ _ (s₁.setTop (mkF mM 3 #[.val (.int p0), .val (.int p1), .val (.int p2), .val (.int p3), .val (.int p4), .unset, .unset, .unset, .unset, .unset, .unset, .unset, .unset] [(.int 2147483647), (.int p0)])) _
    refine XS.iand X0.here hx rfl (hb hby at_3) rfl ?_
    show Steps _ _ _ (s₁.setTop (mkF mM 4 #[.val (.int p0), .val (.int p1), .val (.int p2), .val (.int p3), .val (.int p4), .unset, .unset, .unset, .unset, .unset, .unset, .unset, .unset] [(.int (p0 &&& (2147483647 : Int32)))])) _
    refine XS.iconst X0.here hx rfl (hb hby at_4) ?_
    show Steps _ _ _ (s₁.setTop (mkF mM 5 #[.val (.int p0), .val (.int p1), .val (.int p2), .val (.int p3), .val (.int p4), .unset, .unset, .unset, .unset, .unset, .unset, .unset, .unset] [(.int 5), (.int (p0 &&& (2147483647 : Int32)))])) _
    refine iremM X0 hx (g := (mkF mM 5 #[.val (.int p0), .val (.int p1), .val (.int p2), .val (.int p3), .val (.int p4), .unset, .unset, .unset, .unset, .unset, .unset, .unset, .unset] [(.int 5), (.int (p0 &&& (2147483647 : Int32)))])) rfl (hb hby at_5) rfl (by decide) ?_
    show Steps _ _ _ (s₁.setTop (mkF mM 6 #[.val (.int p0), .val (.int p1), .val (.int p2), .val (.int p3), .val (.int p4), .unset, .unset, .unset, .unset, .unset, .unset, .unset, .unset] [(.int ((p0 &&& (2147483647 : Int32)) % (5 : Int32)))])) _
    rw [hnl]
    show Steps _ _ _ (s₁.setTop (mkF mM 6 #[.val (.int p0), .val (.int p1), .val (.int p2), .val (.int p3), .val (.int p4), .unset, .unset, .unset, .unset, .unset, .unset, .unset, .unset] [(.int nl)])) _
    refine XS.istore X0.here hx rfl (hb hby at_6) rfl (l' := Ls1) rfl ?_
    show Steps _ _ _ (s₁.setTop (mkF mM 8 Ls1 [])) _
    refine XS.iloadN X0.here hx rfl (hb hby at_8) rfl ?_
    show Steps _ _ _ (s₁.setTop (mkF mM 9 Ls1 [(.int p1)])) _
    refine st2 _ ?_
    show Steps _ _ _ (T2.setTop (mkF mM 12 Ls1 [(.int (own_dw p1))])) _
    rw [← hx0]
    show Steps _ _ _ (T2.setTop (mkF mM 12 Ls1 [(.int x0)])) _
    refine XS.istore X2.here hx rfl (hb hby at_12) rfl (l' := Ls3) rfl ?_
    show Steps _ _ _ (T2.setTop (mkF mM 14 Ls3 [])) _
    refine XS.iloadN X2.here hx rfl (hb hby at_14) rfl ?_
    show Steps _ _ _ (T2.setTop (mkF mM 15 Ls3 [(.int p2)])) _
    refine st4 _ ?_
    show Steps _ _ _ (T4.setTop (mkF mM 18 Ls3 [(.int (own_dw p2))])) _
    rw [← hx1]
    show Steps _ _ _ (T4.setTop (mkF mM 18 Ls3 [(.int x1)])) _
    refine XS.istore X4.here hx rfl (hb hby at_18) rfl (l' := Ls5) rfl ?_
    show Steps _ _ _ (T4.setTop (mkF mM 20 Ls5 [])) _
    refine XS.iloadN X4.here hx rfl (hb hby at_20) rfl ?_
    show Steps _ _ _ (T4.setTop (mkF mM 21 Ls5 [(.int p3)])) _
    refine st6 _ ?_
    show Steps _ _ _ (T6.setTop (mkF mM 24 Ls5 [(.int (own_dw p3))])) _
    rw [← hx2]
    show Steps _ _ _ (T6.setTop (mkF mM 24 Ls5 [(.int x2)])) _
    refine XS.istore X6.here hx rfl (hb hby at_24) rfl (l' := Ls7) rfl ?_
    show Steps _ _ _ (T6.setTop (mkF mM 26 Ls7 [])) _
    refine XS.iload X6.here hx rfl (hb hby at_26) rfl ?_
    show Steps _ _ _ (T6.setTop (mkF mM 28 Ls7 [(.int p4)])) _
    refine st8 _ ?_
    show Steps _ _ _ (T8.setTop (mkF mM 31 Ls7 [(.int (own_dw p4))])) _
    rw [← hx3]
    show Steps _ _ _ (T8.setTop (mkF mM 31 Ls7 [(.int x3)])) _
    refine XS.istore X8.here hx rfl (hb hby at_31) rfl (l' := Ls9) rfl ?_
    exact kg)
  rcases hnc with rfl | rfl | rfl | rfl | rfl
  · let Ls11 : Array Slot := #[.val (.int p0), .val (.int p1), .val (.int p2), .val (.int p3), .val (.int p4), .val (.int 0), .val (.int x0), .val (.int x1), .val (.int x2), .val (.int x3), .unset, .unset, .unset]
    obtain ⟨T12, h12, k12, X12, e12, E12, A12, st12⟩ := newP X8 hx hZ0 (aty := .char) (w_6 hw) Kq8 (g := (mkF mM 39 Ls11 [(.int 0)])) rfl (hb hby at_39) rfl (by decide) (cap := 0) (by decide) (by decide) (by decide) (by decide)
    obtain ⟨b12, g12⟩ : ∃ z, z = h0.size := ⟨_, rfl⟩
    rw [← g12] at A12 st12
    have Sn_b12 : Safe Z own_EL sS.vm h0 b12 := Safe.new (Nat.le_of_eq g12.symm)
    have g_b12 : n0 ≤ b12 := Nat.le_trans (own_osz O0) (Nat.le_of_eq g12.symm)
    have sz_b12 : h0.size ≤ b12 := Nat.le_trans K0.1 (Nat.le_of_eq g12.symm)
    have CH13 : CHr Z own_EL sS.vm h0 sS.vm h12 := CH0.trans (CHr.ext E12 CH0.1)
    have hk14 := Nat.le_trans hk0 E12.1
    have K15 : Keep h0 h12 [] := K0.ext E12
    have V12 : Arv Z h12 b12 k12 .char (0 : Int32) [] (.int 0) := Arv.new A12 (by decide)
    let Ls16 : Array Slot := #[.val (.int p0), .val (.int p1), .val (.int p2), .val (.int p3), .val (.int p4), .val (.int 0), .val (.int x0), .val (.int x1), .val (.int x2), .val (.int x3), .val (.ref b12), .unset, .unset]
    obtain ⟨T17, h17, X17, e17, E17, A17, D17, -, st17⟩ := newO X12 hx hZ0 hown0 (w_7 hw) (w_8 hw) (w_9 hw) e12 (g := (mkF mM 143 Ls16 [])) rfl (hb hby at_143) (by decide) (by decide)
    obtain ⟨b17, g17⟩ : ∃ z, z = h12.size := ⟨_, rfl⟩
    rw [← g17] at A17 D17 st17
    have Sn_b17 : Safe Z own_EL sS.vm h12 b17 := Safe.new (Nat.le_of_eq g17.symm)
    have f18 := (O0.ext E12)
    have g_b17 : n0 ≤ b17 := Nat.le_trans (own_osz f18) (Nat.le_of_eq g17.symm)
    have sz_b17 : h0.size ≤ b17 := Nat.le_trans K15.1 (Nat.le_of_eq g17.symm)
    have CH19 : CHr Z own_EL sS.vm h0 sS.vm h17 := CH13.trans (CHr.ext E17 CH13.1)
    have hk20 := Nat.le_trans hk14 E17.1
    have K21 : Keep h0 h17 [] := K15.ext E17
    have F_b17_value : Fld Z h17 b17 "java/lang/String" "value" "[B" .null := D17 (Or.inr (w_22 hw)) (ty := (.array .byte)) (by decide)
    have F_b17_coder : Fld Z h17 b17 "java/lang/String" "coder" "B" (.int 0) := D17 (Or.inr (w_23 hw)) (ty := .byte) (by decide)
    have f22 := (V12.ext E17)
    have f23 := (Safe.ext E17 CH13.1 Sn_b17)
    have f24 := (f18.ext E17)
    obtain ⟨_, _, ⟨T25, L25, k25, n25⟩, -, X25, hS225, hg225, ⟨Lc25, hQ25, l25, y25, z25, CHl25⟩, st25⟩ := X17.specialBackS hx (y := (⟨"java/lang/String", "<init>", "([C)V"⟩ : MethodName)) rfl hown0 (mvT hZ0 (w_10 hw)) (mvT hZ0 (w_11 hw)) (mvT hZ0 (w_12 hw)) (by decide) (own_backOfSH (s := sS) (vm0 := sS.vm) (rm := (⟨2, 4, 8, 29⟩ : Room)) (W := 1) (rm_se1 l Z a0 hw [] b17 b12 .null (.int 0) k12 h17 n0 f24 A17 F_b17_value F_b17_coder g_b17 f22) hZ0 (w_12 hw) (w_9 hw) (by decide) (by decide) hEL CH19.1 (own_sfS (A17).lt f23 own_sf0)) (g := (mkF mM 149 Ls16 [(.ref b12), (.ref b17), (.ref b17)])) rfl (by rw [hml]; rfl) (Steps.refl _) (a := b17) (argsL := [(.ref b12)]) (rest := [(.ref b17)]) (lenOf pd_19 rfl) rfl (by show 2 * 0 + _ ≤ _; exact Nat.le_of_eq rfl) (hb hby at_149) (fun _ _ => ⟨rfl, e17, (by decide : 2 + 4 ≤ _), (by decide : 4 + 8 ≤ _)⟩)
    dsimp only [Pt.U, Pt.locs, Pt.cells, Pt.slots] at X25 l25 y25 z25 st25 hQ25 hS225 hg225 CHl25
    subst l25 y25 z25
    have hS25 := foldS hS0 (by rw [e17]; exact hk20) hS225 hg225
    have hZ25 : Z.Warmed39 (sS.setVm T25.vm).vm := State.Warmed39.trans (t := sS.setVm sS.vm) hZ0 hS225.1
    have hown25 : (sS.setVm T25.vm).vm.findClass "com/example/ullr/ullr/files/GlobIsGlobPinLaw" = some mM.cls := by rw [show (sS.setVm T25.vm).vm = T25.vm from rfl, hS225.1.alike.findClass]; exact hown0
    have hk25 : T25.heap.size ≤ T25.heap.size := Nat.le_refl _
    replace X25 : Stand pP l eE room_1 (sS.setVm T25.vm) mM _ below meth cC T25 _ _ _ := X25
    obtain ⟨t_25, k_25, rfl, Nq25, Kq25, q25_0⟩ := hQ25
    have N25 := Fr.app N0 Nq25
    have CH26 : CHr Z own_EL sS.vm h0 T25.vm T25.heap := CH19.trans (CHl25)
    skip
    have K28 : Keep h0 T25.heap [] := K21.trans Kq25 (allS (Or.inr sz_b17) all0)
    let Ls29 : Array Slot := #[.val (.int p0), .val (.int p1), .val (.int p2), .val (.int p3), .val (.int p4), .val (.int 0), .val (.int x0), .val (.int x1), .val (.int x2), .val (.int x3), .val (.ref b12), .val (.ref b17), .unset]
    obtain ⟨T30, X30, e30, st30⟩ := own_to X25 (h := T25.heap) (g := (mkF mM 154 Ls29 [])) (g' := (mkF mM 214 Ls29 [(.int (own_ex ([] : List Int32)))])) (by
      refine ⟨T25, X25, rfl, fun tg kg => ?_⟩
      rw [show (own_ex ([] : List Int32)) = (0 : Int32) from by rfl] at kg
      refine XS.iload X25.here hx rfl (hb hby at_154) rfl ?_
      show Steps _ _ _ (T25.setTop (mkF mM 156 Ls29 [(.int 0)])) _
      refine XS.ifYes X25.here hx rfl (pc0 := 156) (pc' := 167) rfl (hb hby at_156) rfl ((if0 _ _).trans (flt (by decide : ¬ ((0 : Int32) < (0 : Int32)))).2.2.2) (by decide) (by decide) ?_
      show Steps _ _ _ (T25.setTop (mkF mM 167 Ls29 [])) _
      refine XS.iload X25.here hx rfl (hb hby at_167) rfl ?_
      show Steps _ _ _ (T25.setTop (mkF mM 169 Ls29 [(.int 0)])) _
      refine XS.iconst X25.here hx rfl (hb hby at_169) ?_
      show Steps _ _ _ (T25.setTop (mkF mM 170 Ls29 [(.int 1), (.int 0)])) _
      refine XS.icmpYes X25.here hx rfl (pc0 := 170) (pc' := 181) rfl (hb hby at_170) rfl (flt (by decide : ¬ ((1 : Int32) < (0 : Int32)))).2.2.2 (by decide) (by decide) ?_
      show Steps _ _ _ (T25.setTop (mkF mM 181 Ls29 [])) _
      refine XS.iload X25.here hx rfl (hb hby at_181) rfl ?_
      show Steps _ _ _ (T25.setTop (mkF mM 183 Ls29 [(.int 0)])) _
      refine XS.iconst X25.here hx rfl (hb hby at_183) ?_
      show Steps _ _ _ (T25.setTop (mkF mM 184 Ls29 [(.int 2), (.int 0)])) _
      refine XS.icmpYes X25.here hx rfl (pc0 := 184) (pc' := 195) rfl (hb hby at_184) rfl (flt (by decide : ¬ ((2 : Int32) < (0 : Int32)))).2.2.2 (by decide) (by decide) ?_
      show Steps _ _ _ (T25.setTop (mkF mM 195 Ls29 [])) _
      refine XS.iload X25.here hx rfl (hb hby at_195) rfl ?_
      show Steps _ _ _ (T25.setTop (mkF mM 197 Ls29 [(.int 0)])) _
      refine XS.iconst X25.here hx rfl (hb hby at_197) ?_
      show Steps _ _ _ (T25.setTop (mkF mM 198 Ls29 [(.int 3), (.int 0)])) _
      refine XS.icmpYes X25.here hx rfl (pc0 := 198) (pc' := 213) rfl (hb hby at_198) rfl (flt (by decide : ¬ ((3 : Int32) < (0 : Int32)))).2.2.2 (by decide) (by decide) ?_
      show Steps _ _ _ (T25.setTop (mkF mM 213 Ls29 [])) _
      refine XS.iconst X25.here hx rfl (hb hby at_213) ?_
      exact kg)
    let Ls31 : Array Slot := #[.val (.int p0), .val (.int p1), .val (.int p2), .val (.int p3), .val (.int p4), .val (.int 0), .val (.int x0), .val (.int x1), .val (.int x2), .val (.int x3), .val (.ref b12), .val (.ref b17), .val (.int (own_ex ([] : List Int32)))]
    have f32 := (f24.keep Kq25 (allS g_b17 all0))
    obtain ⟨_, _, ⟨T33, L33, k33, n33⟩, -, X33, ⟨Lc33, hQ33, l33, y33, z33⟩, st33⟩ := Jvm.LawKit.callS X30 hx (y := (⟨"com/example/ullr/ullr/files/Glob", "isGlob", "(Ljava/lang/String;)Z"⟩ : MethodName)) hown25 (mvT hZ25 (w_28 hw)) (mvT hZ25 (w_29 hw)) (mvT hZ25 (w_30 hw)) (mvT hZ25 (w_31 hw)) (by decide) (backOf (W := 0) (rm_glL l Z a0 hw [] b17 t_25 k_25 [] zc fm T25.heap n0 f32 (⟨(q25_0).1, (q25_0).2.1, (q25_0).2.2.1, (q25_0).2.2.2.1, (q25_0).2.2.2.2⟩ : own_Str Z T25.heap b17 t_25 k_25 []) S_COMPACT_STRINGS hp1 S_SIOOBE_FORMATTER hp3) hZ25 (w_31 hw) (w_30 hw) (by decide) (by decide)) (g := (mkF mM 218 Ls31 [(.ref b17)])) rfl (by rw [hml]; rfl) (argsL := [(.ref b17)]) (rest := []) (lenOf pd_20 rfl) rfl (by show 2 * 0 + _ ≤ _; exact Nat.le_of_eq rfl) (hb hby at_218) (fun _ _ => ⟨rfl, e30, (by decide : 6 + 0 ≤ _), (by decide : 12 + 0 ≤ _)⟩)
    dsimp only [Pt.U, Pt.locs, Pt.cells, Pt.slots] at X33 l33 y33 z33 st33 hQ33
    subst l33 y33 z33
    obtain ⟨rfl, rfl, Kq33⟩ := hQ33
    try rw [List.append_nil] at X33
    obtain ⟨fs, hr, hrun, hended, hR1, hR2, hR3, hR4⟩ := Stand.leaveW (s := sS) (vm₁ := T25.vm) X33 hS25 (by rw [Kq33]; exact hk25) (v := some (.int 1)) (fun h => by rw [Bd.returns] at h; cases h)
    refine ⟨_, _, pre10 _ ?_, hrun, hended, _, _, rfl, ?_, ?_, hR1, hR2, hR3, hR4.mono (by decide) (by decide)⟩
    · refine XS.iload X8.here hx rfl (hb hby at_33) rfl ?_
      show Steps _ _ _ (T8.setTop (mkF mM 35 Ls11 [(.int 0)])) _
      refine XS.ifNo X8.here hx rfl (hb hby at_35) rfl ((if0 _ _).trans (teq (by decide : (0 : Int32) = (0 : Int32))).2) ?_
      show Steps _ _ _ (T8.setTop (mkF mM 38 Ls11 [])) _
      refine XS.iconst X8.here hx rfl (hb hby at_38) ?_
      show Steps _ _ _ (T8.setTop (mkF mM 39 Ls11 [(.int 0)])) _
      refine st12 _ ?_
      show Steps _ _ _ (T12.setTop (mkF mM 41 Ls11 [(.ref b12)])) _
      refine XS.astore X12.here hx rfl (hb hby at_41) rfl rfl (l' := Ls16) rfl ?_
      show Steps _ _ _ (T12.setTop (mkF mM 43 Ls16 [])) _
      refine XS.goto X12.here hx rfl (pc0 := 43) (pc' := 143) rfl (hb hby at_43) (by decide) (by decide) ?_
      show Steps _ _ _ (T12.setTop (mkF mM 143 Ls16 [])) _
      refine st17 _ ?_
      show Steps _ _ _ (T17.setTop (mkF mM 146 Ls16 [(.ref b17)])) _
      refine XS.dup X17.here hx rfl (hb hby at_146) rfl rfl ?_
      show Steps _ _ _ (T17.setTop (mkF mM 147 Ls16 [(.ref b17), (.ref b17)])) _
      refine XS.aload X17.here hx rfl (hb hby at_147) rfl rfl ?_
      show Steps _ _ _ (T17.setTop (mkF mM 149 Ls16 [(.ref b12), (.ref b17), (.ref b17)])) _
      refine st25.trans ?_
      show Steps _ _ _ (T25.setTop (mkF mM 152 Ls16 [(.ref b17)])) _
      refine XS.astore X25.here hx rfl (hb hby at_152) rfl rfl (l' := Ls29) rfl ?_
      show Steps _ _ _ (T25.setTop (mkF mM 154 Ls29 [])) _
      refine st30 _ ?_
      show Steps _ _ _ (T30.setTop (mkF mM 214 Ls29 [(.int (own_ex ([] : List Int32)))])) _
      refine XS.istore X30.here hx rfl (hb hby at_214) rfl (l' := Ls31) rfl ?_
      show Steps _ _ _ (T30.setTop (mkF mM 216 Ls31 [])) _
      refine XS.aload X30.here hx rfl (hb hby at_216) rfl rfl ?_
      show Steps _ _ _ (T30.setTop (mkF mM 218 Ls31 [(.ref b17)])) _
      refine st33 _ ?_
      show Steps _ _ _ (T33.setTop (mkF mM 221 Ls31 [(.int (own_gl [] ([].length - 0)))])) _
      refine XS.iload X33.here hx rfl (hb hby at_221) rfl ?_
      show Steps _ _ _ (T33.setTop (mkF mM 223 Ls31 [(.int (own_ex ([] : List Int32))), (.int (own_gl [] ([].length - 0)))])) _
      refine XS.icmpNo X33.here hx rfl (hb hby at_223) rfl (teq (own_gl_ex ([] : List Int32) _ rfl (Nat.le_of_ble_eq_true rfl))).2 ?_
      show Steps _ _ _ (T33.setTop (mkF mM 226 Ls31 [])) _
      refine XS.iconst X33.here hx rfl (hb hby at_226) ?_
      show Steps _ _ _ (T33.setTop (mkF mM 227 Ls31 [(.int 1)])) _
      refine XS.goto X33.here hx rfl (pc0 := 227) (pc' := 231) rfl (hb hby at_227) (by decide) (by decide) ?_
      show Steps _ _ _ (T33.setTop (mkF mM 231 Ls31 [(.int 1)])) _
      exact retN X33 hx (t := .boolean) Bd.returns (by simp) (hb hby at_231) hr
    · show Q_law Z p0 p1 p2 p3 p4 zc fm h0 n0 _ T33.heap _ T33.vm
      rw [Kq33]
      exact ⟨rfl, N25, K28⟩
    · show CHr Z own_EL sS.vm sS.heap T33.vm T33.heap
      rw [hh, Kq33]
      exact CH26.trans (CHv.at X33 hZ25 hEL CH26.1)
  · let Ls35 : Array Slot := #[.val (.int p0), .val (.int p1), .val (.int p2), .val (.int p3), .val (.int p4), .val (.int 1), .val (.int x0), .val (.int x1), .val (.int x2), .val (.int x3), .unset, .unset, .unset]
    have hbd : ∀ c ∈ ([x0] : List Int32), ¬ c < 0 ∧ ¬ (65535 : Int32) < c := by
      intro c hc
      simp only [List.mem_cons, List.not_mem_nil, or_false] at hc
      rcases hc with rfl
      all_goals first | exact hxb0
    obtain ⟨T36, h36, k36, X36, e36, E36, A36, st36⟩ := newP X8 hx hZ0 (aty := .char) (w_6 hw) Kq8 (g := (mkF mM 53 Ls35 [(.int 1)])) rfl (hb hby at_53) rfl (by decide) (cap := 1) (by decide) (by decide) (by decide) (by decide)
    obtain ⟨b36, g36⟩ : ∃ z, z = h0.size := ⟨_, rfl⟩
    rw [← g36] at A36 st36
    have Sn_b36 : Safe Z own_EL sS.vm h0 b36 := Safe.new (Nat.le_of_eq g36.symm)
    have g_b36 : n0 ≤ b36 := Nat.le_trans (own_osz O0) (Nat.le_of_eq g36.symm)
    have sz_b36 : h0.size ≤ b36 := Nat.le_trans K0.1 (Nat.le_of_eq g36.symm)
    have CH37 : CHr Z own_EL sS.vm h0 sS.vm h36 := CH0.trans (CHr.ext E36 CH0.1)
    have hk38 := Nat.le_trans hk0 E36.1
    have K39 : Keep h0 h36 [] := K0.ext E36
    have V36 : Arv Z h36 b36 k36 .char (1 : Int32) [(.int 0)] (.int 0) := (Arv.new A36 (by decide)).pad (pad_rep [] (.int 0) 1)
    obtain ⟨cl40, Ar40, qk40, S40, Nn40, Hh40, G40⟩ := id V36
    have hin40 : ¬ ((0 : Int32) < 0 ∨ cl40.slots.size ≤ ((0 : Int32)).toNatClampNeg) := inb_of S40 ⟨by decide, by decide⟩
    obtain ⟨T40, h40, X40, e40, W40, st40⟩ := stC X36 hx hZ0 e36 Ar40 (j := (0 : Int32)) hin40 (g := (mkF mM 59 Ls35 [(.int x0), (.int 0), (.ref b36), (.ref b36)])) rfl rfl (hb hby at_59)
    rw [own_nc16 hxb0] at W40
    have f43 := (Safe.ext E36 CH0.1 Sn_b36)
    have sfp42 := f43
    have CH41 : CHr Z own_EL sS.vm h0 sS.vm h40 := CH37.trans (CHr.wr W40 sfp42 CH37.1)
    have hk44 := Nat.le_trans hk38 (Nat.le_of_eq W40.size.symm)
    have K45 : Keep h0 h40 [] := K39.wr W40 (Or.inr sz_b36)
    have V40 : Arv Z h40 b36 k36 .char (1 : Int32) [(.int x0)] (.int 0) := Arv.set Ar40 qk40 S40 Nn40 Hh40 G40 (own_nc16 hxb0 ▸ fits_nar_char _) W40 0 rfl (Nat.le_of_ble_eq_true rfl)
    have N40 := Fr.snoc X40 N0 g_b36
    let Ls46 : Array Slot := #[.val (.int p0), .val (.int p1), .val (.int p2), .val (.int p3), .val (.int p4), .val (.int 1), .val (.int x0), .val (.int x1), .val (.int x2), .val (.int x3), .val (.ref b36), .unset, .unset]
    have pre48 : ∀ tg, Steps pP.tables eE below (T40.setTop (mkF mM 143 Ls46 [])) tg → Steps pP.tables eE below (s₁.setTop (entryFrame mM #[(.int p0), (.int p1), (.int p2), (.int p3), (.int p4)] maxLocals)) tg := fun tg kg => pre10 tg (by
      refine XS.iload X8.here hx rfl (hb hby at_33) rfl ?_
      show Steps _ _ _ (T8.setTop (mkF mM 35 Ls35 [(.int 1)])) _
      refine XS.ifYes X8.here hx rfl (pc0 := 35) (pc' := 46) rfl (hb hby at_35) rfl ((if0 _ _).trans (feq (by decide : ¬ ((1 : Int32) = (0 : Int32)))).2) (by decide) (by decide) ?_
      show Steps _ _ _ (T8.setTop (mkF mM 46 Ls35 [])) _
      refine XS.iload X8.here hx rfl (hb hby at_46) rfl ?_
      show Steps _ _ _ (T8.setTop (mkF mM 48 Ls35 [(.int 1)])) _
      refine XS.iconst X8.here hx rfl (hb hby at_48) ?_
      show Steps _ _ _ (T8.setTop (mkF mM 49 Ls35 [(.int 1), (.int 1)])) _
      refine XS.icmpNo X8.here hx rfl (hb hby at_49) rfl (teq (by decide : (1 : Int32) = (1 : Int32))).2 ?_
      show Steps _ _ _ (T8.setTop (mkF mM 52 Ls35 [])) _
      refine XS.iconst X8.here hx rfl (hb hby at_52) ?_
      show Steps _ _ _ (T8.setTop (mkF mM 53 Ls35 [(.int 1)])) _
      refine st36 _ ?_
      show Steps _ _ _ (T36.setTop (mkF mM 55 Ls35 [(.ref b36)])) _
      refine XS.dup X36.here hx rfl (hb hby at_55) rfl rfl ?_
      show Steps _ _ _ (T36.setTop (mkF mM 56 Ls35 [(.ref b36), (.ref b36)])) _
      refine XS.iconst X36.here hx rfl (hb hby at_56) ?_
      show Steps _ _ _ (T36.setTop (mkF mM 57 Ls35 [(.int 0), (.ref b36), (.ref b36)])) _
      refine XS.iload X36.here hx rfl (hb hby at_57) rfl ?_
      show Steps _ _ _ (T36.setTop (mkF mM 59 Ls35 [(.int x0), (.int 0), (.ref b36), (.ref b36)])) _
      refine st40 _ ?_
      show Steps _ _ _ (T40.setTop (mkF mM 60 Ls35 [(.ref b36)])) _
      refine XS.astore X40.here hx rfl (hb hby at_60) rfl rfl (l' := Ls46) rfl ?_
      show Steps _ _ _ (T40.setTop (mkF mM 62 Ls46 [])) _
      refine XS.goto X40.here hx rfl (pc0 := 62) (pc' := 143) rfl (hb hby at_62) (by decide) (by decide) ?_
      exact kg)
    by_cases hfi47 : (own_fi ([x0] : List Int32)) < 1
    · obtain ⟨T49, h49, X49, e49, E49, A49, D49, -, st49⟩ := newO X40 hx hZ0 hown0 (w_7 hw) (w_8 hw) (w_9 hw) e40 (g := (mkF mM 143 Ls46 [])) rfl (hb hby at_143) (by decide) (by decide)
      obtain ⟨b49, g49⟩ : ∃ z, z = h40.size := ⟨_, rfl⟩
      rw [← g49] at A49 D49 st49
      have Sn_b49 : Safe Z own_EL sS.vm h40 b49 := Safe.new (Nat.le_of_eq g49.symm)
      have f50 := ((O0.ext E36).wr W40 g_b36)
      have g_b49 : n0 ≤ b49 := Nat.le_trans (own_osz f50) (Nat.le_of_eq g49.symm)
      have sz_b49 : h0.size ≤ b49 := Nat.le_trans K45.1 (Nat.le_of_eq g49.symm)
      have CH51 : CHr Z own_EL sS.vm h0 sS.vm h49 := CH41.trans (CHr.ext E49 CH41.1)
      have hk52 := Nat.le_trans hk44 E49.1
      have K53 : Keep h0 h49 [] := K45.ext E49
      have F_b49_value : Fld Z h49 b49 "java/lang/String" "value" "[B" .null := D49 (Or.inr (w_22 hw)) (ty := (.array .byte)) (by decide)
      have F_b49_coder : Fld Z h49 b49 "java/lang/String" "coder" "B" (.int 0) := D49 (Or.inr (w_23 hw)) (ty := .byte) (by decide)
      have f54 := (V40.ext E49)
      have f55 := (f50.ext E49)
      obtain ⟨_, _, ⟨T56, L56, k56, n56⟩, -, X56, ⟨Lc56, hQ56, l56, y56, z56⟩, st56⟩ := X49.specialBack hx (y := (⟨"java/lang/String", "<init>", "([C)V"⟩ : MethodName)) rfl hown0 (mvT hZ0 (w_10 hw)) (mvT hZ0 (w_11 hw)) (mvT hZ0 (w_12 hw)) (by decide) (backOf (W := 1) (rm_in11 l Z a0 hw [] b49 b36 k36 .null (.int 0) x0 zc h49 n0 f55 A49 F_b49_value F_b49_coder g_b49 f54 hfi47 (hbd : ∀ c ∈ ([x0] : List Int32), ¬ c < 0 ∧ ¬ (65535 : Int32) < c) S__assertionsDisabled S_HI_BYTE_SHIFT S_LO_BYTE_SHIFT S_COMPACT_STRINGS hp1) hZ0 (w_12 hw) (w_9 hw) (by decide) (by decide)) (g := (mkF mM 149 Ls46 [(.ref b36), (.ref b49), (.ref b49)])) rfl (by rw [hml]; rfl) (Steps.refl _) (a := b49) (argsL := [(.ref b36)]) (rest := [(.ref b49)]) (lenOf pd_19 rfl) rfl (by show 2 * 0 + _ ≤ _; exact Nat.le_of_eq rfl) (hb hby at_149) (fun _ _ => ⟨rfl, e49, (by decide : 2 + 2 ≤ _), (by decide : 5 + 9 ≤ _)⟩)
      dsimp only [Pt.U, Pt.locs, Pt.cells, Pt.slots] at X56 l56 y56 z56 st56 hQ56
      subst l56 y56 z56
      obtain ⟨t_56, k_56, rfl, Nq56, Kq56, q56_0, q56_1, q56_2, q56_3, q56_4⟩ := hQ56
      have N56 := Fr.app N40 Nq56
      have g_t_56 : n0 ≤ t_56 := Nat.le_trans (own_osz f55) q56_3
      have sz_t_56 : h0.size ≤ t_56 := Nat.le_trans K53.1 q56_3
      have f58 := (Safe.ext E49 CH41.1 Sn_b49)
      have sfp59 := (sfS f58 sf0)
      have CH57 : CHr Z own_EL sS.vm h0 sS.vm T56.heap := CH51.trans (CHr.keep Kq56 sfp59 CH51.1)
      have hk60 := Nat.le_trans hk52 Kq56.1
      have K61 : Keep h0 T56.heap [] := K53.trans Kq56 (allS (Or.inr sz_b49) all0)
      let Ls62 : Array Slot := #[.val (.int p0), .val (.int p1), .val (.int p2), .val (.int p3), .val (.int p4), .val (.int 1), .val (.int x0), .val (.int x1), .val (.int x2), .val (.int x3), .val (.ref b36), .val (.ref b49), .unset]
      obtain ⟨T63, X63, e63, st63⟩ := own_to X56 (h := T56.heap) (g := (mkF mM 154 Ls62 [])) (g' := (mkF mM 214 Ls62 [(.int (own_ex ([x0] : List Int32)))])) (by
        have f64 := (f55.keep Kq56 (allS g_b49 all0))
        obtain ⟨_, _, ⟨T65, L65, k65, n65⟩, -, X65, ⟨Lc65, hQ65, l65, y65, z65⟩, st65⟩ := Jvm.LawKit.callS X56 hx (y := (⟨"com/example/ullr/ullr/files/GlobIsGlobPinLaw", "wild", "(C)Z"⟩ : MethodName)) hown0 (mvT hZ0 (w_82 hw)) (mvT hZ0 (w_83 hw)) (mvT hZ0 (w_3 hw)) (mvT hZ0 (w_84 hw)) (by decide) (backOf (W := 0) (rm_wild l Z a0 hw [] x0 T56.heap n0 f64 ) hZ0 (w_84 hw) (w_3 hw) (by decide) (by decide)) (g := (mkF mM 161 Ls62 [(.int x0)])) rfl (by rw [hml]; rfl) (argsL := [(.int x0)]) (rest := []) (lenOf pd_21 rfl) rfl (by show 2 * 0 + _ ≤ _; exact Nat.le_of_eq rfl) (hb hby at_161) (fun _ _ => ⟨rfl, rfl, (by decide : 4 + 0 ≤ _), (by decide : 14 + 0 ≤ _)⟩)
        dsimp only [Pt.U, Pt.locs, Pt.cells, Pt.slots] at X65 l65 y65 z65 st65 hQ65
        subst l65 y65 z65
        obtain ⟨rfl, rfl, Kq65⟩ := hQ65
        try rw [List.append_nil] at X65
        have pre67 : ∀ tg, Steps pP.tables eE below (T65.setTop (mkF mM 164 Ls62 [(.int (own_wild x0))])) tg → Steps pP.tables eE below (T56.setTop (mkF mM 154 Ls62 [])) tg := fun tg kg => (by
          refine XS.iload X56.here hx rfl (hb hby at_154) rfl ?_
          show Steps _ _ _ (T56.setTop (mkF mM 156 Ls62 [(.int 1)])) _
          refine XS.ifNo X56.here hx rfl (hb hby at_156) rfl ((if0 _ _).trans (tlt (by decide : (0 : Int32) < (1 : Int32))).2.2.2) ?_
          show Steps _ _ _ (T56.setTop (mkF mM 159 Ls62 [])) _
          refine XS.iload X56.here hx rfl (hb hby at_159) rfl ?_
          show Steps _ _ _ (T56.setTop (mkF mM 161 Ls62 [(.int x0)])) _
          refine st65 _ ?_
          exact kg)
        by_cases hc66 : (own_wild x0) = (0 : Int32)
        · refine ⟨T65, X65, Kq65, fun tg kg => ?_⟩
          rw [show (own_ex ([x0] : List Int32)) = (0 : Int32) from by simp only [own_ex, if_pos hc66]] at kg
          refine pre67 tg ?_
          refine XS.ifNo X65.here hx rfl (hb hby at_164) rfl ((if0 _ _).trans (teq hc66).2) ?_
          show Steps _ _ _ (T65.setTop (mkF mM 167 Ls62 [])) _
          refine XS.iload X65.here hx rfl (hb hby at_167) rfl ?_
          show Steps _ _ _ (T65.setTop (mkF mM 169 Ls62 [(.int 1)])) _
          refine XS.iconst X65.here hx rfl (hb hby at_169) ?_
          show Steps _ _ _ (T65.setTop (mkF mM 170 Ls62 [(.int 1), (.int 1)])) _
          refine XS.icmpYes X65.here hx rfl (pc0 := 170) (pc' := 181) rfl (hb hby at_170) rfl (flt (by decide : ¬ ((1 : Int32) < (1 : Int32)))).2.2.2 (by decide) (by decide) ?_
          show Steps _ _ _ (T65.setTop (mkF mM 181 Ls62 [])) _
          refine XS.iload X65.here hx rfl (hb hby at_181) rfl ?_
          show Steps _ _ _ (T65.setTop (mkF mM 183 Ls62 [(.int 1)])) _
          refine XS.iconst X65.here hx rfl (hb hby at_183) ?_
          show Steps _ _ _ (T65.setTop (mkF mM 184 Ls62 [(.int 2), (.int 1)])) _
          refine XS.icmpYes X65.here hx rfl (pc0 := 184) (pc' := 195) rfl (hb hby at_184) rfl (flt (by decide : ¬ ((2 : Int32) < (1 : Int32)))).2.2.2 (by decide) (by decide) ?_
          show Steps _ _ _ (T65.setTop (mkF mM 195 Ls62 [])) _
          refine XS.iload X65.here hx rfl (hb hby at_195) rfl ?_
          show Steps _ _ _ (T65.setTop (mkF mM 197 Ls62 [(.int 1)])) _
          refine XS.iconst X65.here hx rfl (hb hby at_197) ?_
          show Steps _ _ _ (T65.setTop (mkF mM 198 Ls62 [(.int 3), (.int 1)])) _
          refine XS.icmpYes X65.here hx rfl (pc0 := 198) (pc' := 213) rfl (hb hby at_198) rfl (flt (by decide : ¬ ((3 : Int32) < (1 : Int32)))).2.2.2 (by decide) (by decide) ?_
          show Steps _ _ _ (T65.setTop (mkF mM 213 Ls62 [])) _
          refine XS.iconst X65.here hx rfl (hb hby at_213) ?_
          exact kg
        · refine ⟨T65, X65, Kq65, fun tg kg => ?_⟩
          rw [show (own_ex ([x0] : List Int32)) = (1 : Int32) from by simp only [own_ex, if_neg hc66]] at kg
          refine pre67 tg ?_
          refine XS.ifYes X65.here hx rfl (pc0 := 164) (pc' := 209) rfl (hb hby at_164) rfl ((if0 _ _).trans (feq hc66).2) (by decide) (by decide) ?_
          show Steps _ _ _ (T65.setTop (mkF mM 209 Ls62 [])) _
          refine XS.iconst X65.here hx rfl (hb hby at_209) ?_
          show Steps _ _ _ (T65.setTop (mkF mM 210 Ls62 [(.int 1)])) _
          refine XS.goto X65.here hx rfl (pc0 := 210) (pc' := 214) rfl (hb hby at_210) (by decide) (by decide) ?_
          exact kg)
      let Ls68 : Array Slot := #[.val (.int p0), .val (.int p1), .val (.int p2), .val (.int p3), .val (.int p4), .val (.int 1), .val (.int x0), .val (.int x1), .val (.int x2), .val (.int x3), .val (.ref b36), .val (.ref b49), .val (.int (own_ex ([x0] : List Int32)))]
      have f69 := (f55.keep Kq56 (allS g_b49 all0))
      obtain ⟨_, _, ⟨T70, L70, k70, n70⟩, -, X70, ⟨Lc70, hQ70, l70, y70, z70⟩, st70⟩ := Jvm.LawKit.callS X63 hx (y := (⟨"com/example/ullr/ullr/files/Glob", "isGlob", "(Ljava/lang/String;)Z"⟩ : MethodName)) hown0 (mvT hZ0 (w_28 hw)) (mvT hZ0 (w_29 hw)) (mvT hZ0 (w_30 hw)) (mvT hZ0 (w_31 hw)) (by decide) (backOf (W := 0) (rm_glU l Z a0 hw [] b49 t_56 k_56 1 [x0] zc fm T56.heap n0 f69 q56_0 q56_1 q56_2 q56_4 (⟨rfl, by decide⟩ : [x0].length = 1 ∧ 1 ≤ 4) (hbd : ∀ c ∈ [x0], ¬ c < 0 ∧ ¬ (65535 : Int32) < c) S__assertionsDisabled S_HI_BYTE_SHIFT S_LO_BYTE_SHIFT S_COMPACT_STRINGS hp1 S_SIOOBE_FORMATTER hp3 (by decide : 0 < 1)) hZ0 (w_31 hw) (w_30 hw) (by decide) (by decide)) (g := (mkF mM 218 Ls68 [(.ref b49)])) rfl (by rw [hml]; rfl) (argsL := [(.ref b49)]) (rest := []) (lenOf pd_20 rfl) rfl (by show 2 * 0 + _ ≤ _; exact Nat.le_of_eq rfl) (hb hby at_218) (fun _ _ => ⟨rfl, e63, (by decide : 4 + 0 ≤ _), (by decide : 14 + 0 ≤ _)⟩)
      dsimp only [Pt.U, Pt.locs, Pt.cells, Pt.slots] at X70 l70 y70 z70 st70 hQ70
      subst l70 y70 z70
      obtain ⟨rfl, rfl, Kq70⟩ := hQ70
      try rw [List.append_nil] at X70
      obtain ⟨fs, hr, hrun, hended, hR1, hR2, hR3, hR4⟩ := Stand.leaveW (s := sS) (vm₁ := sS.vm) X70 hS0 (by rw [Kq70]; exact hk60) (v := some (.int 1)) (fun h => by rw [Bd.returns] at h; cases h)
      refine ⟨_, _, pre48 _ ?_, hrun, hended, _, _, rfl, ?_, ?_, hR1, hR2, hR3, hR4.mono (by decide) (by decide)⟩
      · refine st49 _ ?_
        show Steps _ _ _ (T49.setTop (mkF mM 146 Ls46 [(.ref b49)])) _
        refine XS.dup X49.here hx rfl (hb hby at_146) rfl rfl ?_
        show Steps _ _ _ (T49.setTop (mkF mM 147 Ls46 [(.ref b49), (.ref b49)])) _
        refine XS.aload X49.here hx rfl (hb hby at_147) rfl rfl ?_
        show Steps _ _ _ (T49.setTop (mkF mM 149 Ls46 [(.ref b36), (.ref b49), (.ref b49)])) _
        refine st56.trans ?_
        show Steps _ _ _ (T56.setTop (mkF mM 152 Ls46 [(.ref b49)])) _
        refine XS.astore X56.here hx rfl (hb hby at_152) rfl rfl (l' := Ls62) rfl ?_
        show Steps _ _ _ (T56.setTop (mkF mM 154 Ls62 [])) _
        refine st63 _ ?_
        show Steps _ _ _ (T63.setTop (mkF mM 214 Ls62 [(.int (own_ex ([x0] : List Int32)))])) _
        refine XS.istore X63.here hx rfl (hb hby at_214) rfl (l' := Ls68) rfl ?_
        show Steps _ _ _ (T63.setTop (mkF mM 216 Ls68 [])) _
        refine XS.aload X63.here hx rfl (hb hby at_216) rfl rfl ?_
        show Steps _ _ _ (T63.setTop (mkF mM 218 Ls68 [(.ref b49)])) _
        refine st70 _ ?_
        show Steps _ _ _ (T70.setTop (mkF mM 221 Ls68 [(.int (own_gl [x0] 1))])) _
        refine XS.iload X70.here hx rfl (hb hby at_221) rfl ?_
        show Steps _ _ _ (T70.setTop (mkF mM 223 Ls68 [(.int (own_ex ([x0] : List Int32))), (.int (own_gl [x0] 1))])) _
        refine XS.icmpNo X70.here hx rfl (hb hby at_223) rfl (teq (own_gl_ex ([x0] : List Int32) _ rfl (Nat.le_of_ble_eq_true rfl))).2 ?_
        show Steps _ _ _ (T70.setTop (mkF mM 226 Ls68 [])) _
        refine XS.iconst X70.here hx rfl (hb hby at_226) ?_
        show Steps _ _ _ (T70.setTop (mkF mM 227 Ls68 [(.int 1)])) _
        refine XS.goto X70.here hx rfl (pc0 := 227) (pc' := 231) rfl (hb hby at_227) (by decide) (by decide) ?_
        show Steps _ _ _ (T70.setTop (mkF mM 231 Ls68 [(.int 1)])) _
        exact retN X70 hx (t := .boolean) Bd.returns (by simp) (hb hby at_231) hr
      · show Q_law Z p0 p1 p2 p3 p4 zc fm h0 n0 _ T70.heap _ T70.vm
        rw [Kq70]
        exact ⟨rfl, N56, K61⟩
      · show CHr Z own_EL sS.vm sS.heap T70.vm T70.heap
        rw [hh, Kq70]
        exact CH57.trans (CHv.at X70 hZ0 hEL CH57.1)
    · have hcs : ∀ c ∈ ([x0] : List Int32), ¬ c < 0 ∧ ¬ (255 : Int32) < c := fun c hc => ⟨(hbd c hc).1, own_fi_all _ hfi47 c hc⟩
      obtain ⟨T72, h72, X72, e72, E72, A72, D72, -, st72⟩ := newO X40 hx hZ0 hown0 (w_7 hw) (w_8 hw) (w_9 hw) e40 (g := (mkF mM 143 Ls46 [])) rfl (hb hby at_143) (by decide) (by decide)
      obtain ⟨b72, g72⟩ : ∃ z, z = h40.size := ⟨_, rfl⟩
      rw [← g72] at A72 D72 st72
      have Sn_b72 : Safe Z own_EL sS.vm h40 b72 := Safe.new (Nat.le_of_eq g72.symm)
      have f73 := ((O0.ext E36).wr W40 g_b36)
      have g_b72 : n0 ≤ b72 := Nat.le_trans (own_osz f73) (Nat.le_of_eq g72.symm)
      have sz_b72 : h0.size ≤ b72 := Nat.le_trans K45.1 (Nat.le_of_eq g72.symm)
      have CH74 : CHr Z own_EL sS.vm h0 sS.vm h72 := CH41.trans (CHr.ext E72 CH41.1)
      have hk75 := Nat.le_trans hk44 E72.1
      have K76 : Keep h0 h72 [] := K45.ext E72
      have F_b72_value : Fld Z h72 b72 "java/lang/String" "value" "[B" .null := D72 (Or.inr (w_22 hw)) (ty := (.array .byte)) (by decide)
      have F_b72_coder : Fld Z h72 b72 "java/lang/String" "coder" "B" (.int 0) := D72 (Or.inr (w_23 hw)) (ty := .byte) (by decide)
      have f77 := (f73.ext E72)
      have f78 := (V40.ext E72)
      obtain ⟨_, _, ⟨T79, L79, k79, n79⟩, -, X79, ⟨Lc79, hQ79, l79, y79, z79⟩, st79⟩ := X72.specialBack hx (y := (⟨"java/lang/String", "<init>", "([C)V"⟩ : MethodName)) rfl hown0 (mvT hZ0 (w_10 hw)) (mvT hZ0 (w_11 hw)) (mvT hZ0 (w_12 hw)) (by decide) (own_new (W := 1) hZ0 hw (cs := [x0]) (n := 1) g_b72 (own_osz f77) A72 F_b72_value F_b72_coder f78 (Sta.ext (f77).2 S_COMPACT_STRINGS) hp1 rfl rfl (by decide) (by decide) hcs (by decide) (by decide)) (g := (mkF mM 149 Ls46 [(.ref b36), (.ref b72), (.ref b72)])) rfl (by rw [hml]; rfl) (Steps.refl _) (a := b72) (argsL := [(.ref b36)]) (rest := [(.ref b72)]) (lenOf pd_19 rfl) rfl (by show 2 * 0 + _ ≤ _; exact Nat.le_of_eq rfl) (hb hby at_149) (fun _ _ => ⟨rfl, e72, (by decide : 2 + 1 ≤ _), (by decide : 5 + 1 ≤ _)⟩)
      dsimp only [Pt.U, Pt.locs, Pt.cells, Pt.slots] at X79 l79 y79 z79 st79 hQ79
      subst l79 y79 z79
      obtain ⟨rfl, Nq79, Kq79, t79, kb79, hs79, Sq79⟩ := hQ79
      have N79 := Fr.app N40 Nq79
      have g_t79 : n0 ≤ t79 := Nat.le_trans (own_osz f77) hs79
      have sz_t79 : h0.size ≤ t79 := Nat.le_trans K76.1 hs79
      have f81 := (Safe.ext E72 CH41.1 Sn_b72)
      have sfp82 := (sfS f81 sf0)
      have CH80 : CHr Z own_EL sS.vm h0 sS.vm T79.heap := CH74.trans (CHr.keep Kq79 sfp82 CH74.1)
      have hk83 := Nat.le_trans hk75 Kq79.1
      have K84 : Keep h0 T79.heap [] := K76.trans Kq79 (allS (Or.inr sz_b72) all0)
      let Ls85 : Array Slot := #[.val (.int p0), .val (.int p1), .val (.int p2), .val (.int p3), .val (.int p4), .val (.int 1), .val (.int x0), .val (.int x1), .val (.int x2), .val (.int x3), .val (.ref b36), .val (.ref b72), .unset]
      obtain ⟨T86, X86, e86, st86⟩ := own_to X79 (h := T79.heap) (g := (mkF mM 154 Ls85 [])) (g' := (mkF mM 214 Ls85 [(.int (own_ex ([x0] : List Int32)))])) (by
        have f87 := (f77.keep Kq79 (allS g_b72 all0))
        obtain ⟨_, _, ⟨T88, L88, k88, n88⟩, -, X88, ⟨Lc88, hQ88, l88, y88, z88⟩, st88⟩ := Jvm.LawKit.callS X79 hx (y := (⟨"com/example/ullr/ullr/files/GlobIsGlobPinLaw", "wild", "(C)Z"⟩ : MethodName)) hown0 (mvT hZ0 (w_82 hw)) (mvT hZ0 (w_83 hw)) (mvT hZ0 (w_3 hw)) (mvT hZ0 (w_84 hw)) (by decide) (backOf (W := 0) (rm_wild l Z a0 hw [] x0 T79.heap n0 f87 ) hZ0 (w_84 hw) (w_3 hw) (by decide) (by decide)) (g := (mkF mM 161 Ls85 [(.int x0)])) rfl (by rw [hml]; rfl) (argsL := [(.int x0)]) (rest := []) (lenOf pd_21 rfl) rfl (by show 2 * 0 + _ ≤ _; exact Nat.le_of_eq rfl) (hb hby at_161) (fun _ _ => ⟨rfl, rfl, (by decide : 3 + 0 ≤ _), (by decide : 6 + 0 ≤ _)⟩)
        dsimp only [Pt.U, Pt.locs, Pt.cells, Pt.slots] at X88 l88 y88 z88 st88 hQ88
        subst l88 y88 z88
        obtain ⟨rfl, rfl, Kq88⟩ := hQ88
        try rw [List.append_nil] at X88
        have pre90 : ∀ tg, Steps pP.tables eE below (T88.setTop (mkF mM 164 Ls85 [(.int (own_wild x0))])) tg → Steps pP.tables eE below (T79.setTop (mkF mM 154 Ls85 [])) tg := fun tg kg => (by
          refine XS.iload X79.here hx rfl (hb hby at_154) rfl ?_
          show Steps _ _ _ (T79.setTop (mkF mM 156 Ls85 [(.int 1)])) _
          refine XS.ifNo X79.here hx rfl (hb hby at_156) rfl ((if0 _ _).trans (tlt (by decide : (0 : Int32) < (1 : Int32))).2.2.2) ?_
          show Steps _ _ _ (T79.setTop (mkF mM 159 Ls85 [])) _
          refine XS.iload X79.here hx rfl (hb hby at_159) rfl ?_
          show Steps _ _ _ (T79.setTop (mkF mM 161 Ls85 [(.int x0)])) _
          refine st88 _ ?_
          exact kg)
        by_cases hc89 : (own_wild x0) = (0 : Int32)
        · refine ⟨T88, X88, Kq88, fun tg kg => ?_⟩
          rw [show (own_ex ([x0] : List Int32)) = (0 : Int32) from by simp only [own_ex, if_pos hc89]] at kg
          refine pre90 tg ?_
          refine XS.ifNo X88.here hx rfl (hb hby at_164) rfl ((if0 _ _).trans (teq hc89).2) ?_
          show Steps _ _ _ (T88.setTop (mkF mM 167 Ls85 [])) _
          refine XS.iload X88.here hx rfl (hb hby at_167) rfl ?_
          show Steps _ _ _ (T88.setTop (mkF mM 169 Ls85 [(.int 1)])) _
          refine XS.iconst X88.here hx rfl (hb hby at_169) ?_
          show Steps _ _ _ (T88.setTop (mkF mM 170 Ls85 [(.int 1), (.int 1)])) _
          refine XS.icmpYes X88.here hx rfl (pc0 := 170) (pc' := 181) rfl (hb hby at_170) rfl (flt (by decide : ¬ ((1 : Int32) < (1 : Int32)))).2.2.2 (by decide) (by decide) ?_
          show Steps _ _ _ (T88.setTop (mkF mM 181 Ls85 [])) _
          refine XS.iload X88.here hx rfl (hb hby at_181) rfl ?_
          show Steps _ _ _ (T88.setTop (mkF mM 183 Ls85 [(.int 1)])) _
          refine XS.iconst X88.here hx rfl (hb hby at_183) ?_
          show Steps _ _ _ (T88.setTop (mkF mM 184 Ls85 [(.int 2), (.int 1)])) _
          refine XS.icmpYes X88.here hx rfl (pc0 := 184) (pc' := 195) rfl (hb hby at_184) rfl (flt (by decide : ¬ ((2 : Int32) < (1 : Int32)))).2.2.2 (by decide) (by decide) ?_
          show Steps _ _ _ (T88.setTop (mkF mM 195 Ls85 [])) _
          refine XS.iload X88.here hx rfl (hb hby at_195) rfl ?_
          show Steps _ _ _ (T88.setTop (mkF mM 197 Ls85 [(.int 1)])) _
          refine XS.iconst X88.here hx rfl (hb hby at_197) ?_
          show Steps _ _ _ (T88.setTop (mkF mM 198 Ls85 [(.int 3), (.int 1)])) _
          refine XS.icmpYes X88.here hx rfl (pc0 := 198) (pc' := 213) rfl (hb hby at_198) rfl (flt (by decide : ¬ ((3 : Int32) < (1 : Int32)))).2.2.2 (by decide) (by decide) ?_
          show Steps _ _ _ (T88.setTop (mkF mM 213 Ls85 [])) _
          refine XS.iconst X88.here hx rfl (hb hby at_213) ?_
          exact kg
        · refine ⟨T88, X88, Kq88, fun tg kg => ?_⟩
          rw [show (own_ex ([x0] : List Int32)) = (1 : Int32) from by simp only [own_ex, if_neg hc89]] at kg
          refine pre90 tg ?_
          refine XS.ifYes X88.here hx rfl (pc0 := 164) (pc' := 209) rfl (hb hby at_164) rfl ((if0 _ _).trans (feq hc89).2) (by decide) (by decide) ?_
          show Steps _ _ _ (T88.setTop (mkF mM 209 Ls85 [])) _
          refine XS.iconst X88.here hx rfl (hb hby at_209) ?_
          show Steps _ _ _ (T88.setTop (mkF mM 210 Ls85 [(.int 1)])) _
          refine XS.goto X88.here hx rfl (pc0 := 210) (pc' := 214) rfl (hb hby at_210) (by decide) (by decide) ?_
          exact kg)
      let Ls91 : Array Slot := #[.val (.int p0), .val (.int p1), .val (.int p2), .val (.int p3), .val (.int p4), .val (.int 1), .val (.int x0), .val (.int x1), .val (.int x2), .val (.int x3), .val (.ref b36), .val (.ref b72), .val (.int (own_ex ([x0] : List Int32)))]
      have f92 := (f77.keep Kq79 (allS g_b72 all0))
      obtain ⟨_, _, ⟨T93, L93, k93, n93⟩, -, X93, ⟨Lc93, hQ93, l93, y93, z93⟩, st93⟩ := Jvm.LawKit.callS X86 hx (y := (⟨"com/example/ullr/ullr/files/Glob", "isGlob", "(Ljava/lang/String;)Z"⟩ : MethodName)) hown0 (mvT hZ0 (w_28 hw)) (mvT hZ0 (w_29 hw)) (mvT hZ0 (w_30 hw)) (mvT hZ0 (w_31 hw)) (by decide) (backOf (W := 0) (rm_glL l Z a0 hw [] b72 t79 kb79 [x0] zc fm T79.heap n0 f92 (⟨(Sq79).1, (Sq79).2.1, (Sq79).2.2.1, (Sq79).2.2.2.1, (Sq79).2.2.2.2⟩ : own_Str Z T79.heap b72 t79 kb79 [x0]) S_COMPACT_STRINGS hp1 S_SIOOBE_FORMATTER hp3) hZ0 (w_31 hw) (w_30 hw) (by decide) (by decide)) (g := (mkF mM 218 Ls91 [(.ref b72)])) rfl (by rw [hml]; rfl) (argsL := [(.ref b72)]) (rest := []) (lenOf pd_20 rfl) rfl (by show 2 * 0 + _ ≤ _; exact Nat.le_of_eq rfl) (hb hby at_218) (fun _ _ => ⟨rfl, e86, (by decide : 3 + 0 ≤ _), (by decide : 6 + 0 ≤ _)⟩)
      dsimp only [Pt.U, Pt.locs, Pt.cells, Pt.slots] at X93 l93 y93 z93 st93 hQ93
      subst l93 y93 z93
      obtain ⟨rfl, rfl, Kq93⟩ := hQ93
      try rw [List.append_nil] at X93
      obtain ⟨fs, hr, hrun, hended, hR1, hR2, hR3, hR4⟩ := Stand.leaveW (s := sS) (vm₁ := sS.vm) X93 hS0 (by rw [Kq93]; exact hk83) (v := some (.int 1)) (fun h => by rw [Bd.returns] at h; cases h)
      refine ⟨_, _, pre48 _ ?_, hrun, hended, _, _, rfl, ?_, ?_, hR1, hR2, hR3, hR4.mono (by decide) (by decide)⟩
      · refine st72 _ ?_
        show Steps _ _ _ (T72.setTop (mkF mM 146 Ls46 [(.ref b72)])) _
        refine XS.dup X72.here hx rfl (hb hby at_146) rfl rfl ?_
        show Steps _ _ _ (T72.setTop (mkF mM 147 Ls46 [(.ref b72), (.ref b72)])) _
        refine XS.aload X72.here hx rfl (hb hby at_147) rfl rfl ?_
        show Steps _ _ _ (T72.setTop (mkF mM 149 Ls46 [(.ref b36), (.ref b72), (.ref b72)])) _
        refine st79.trans ?_
        show Steps _ _ _ (T79.setTop (mkF mM 152 Ls46 [(.ref b72)])) _
        refine XS.astore X79.here hx rfl (hb hby at_152) rfl rfl (l' := Ls85) rfl ?_
        show Steps _ _ _ (T79.setTop (mkF mM 154 Ls85 [])) _
        refine st86 _ ?_
        show Steps _ _ _ (T86.setTop (mkF mM 214 Ls85 [(.int (own_ex ([x0] : List Int32)))])) _
        refine XS.istore X86.here hx rfl (hb hby at_214) rfl (l' := Ls91) rfl ?_
        show Steps _ _ _ (T86.setTop (mkF mM 216 Ls91 [])) _
        refine XS.aload X86.here hx rfl (hb hby at_216) rfl rfl ?_
        show Steps _ _ _ (T86.setTop (mkF mM 218 Ls91 [(.ref b72)])) _
        refine st93 _ ?_
        show Steps _ _ _ (T93.setTop (mkF mM 221 Ls91 [(.int (own_gl [x0] ([x0].length - 0)))])) _
        refine XS.iload X93.here hx rfl (hb hby at_221) rfl ?_
        show Steps _ _ _ (T93.setTop (mkF mM 223 Ls91 [(.int (own_ex ([x0] : List Int32))), (.int (own_gl [x0] ([x0].length - 0)))])) _
        refine XS.icmpNo X93.here hx rfl (hb hby at_223) rfl (teq (own_gl_ex ([x0] : List Int32) _ rfl (Nat.le_of_ble_eq_true rfl))).2 ?_
        show Steps _ _ _ (T93.setTop (mkF mM 226 Ls91 [])) _
        refine XS.iconst X93.here hx rfl (hb hby at_226) ?_
        show Steps _ _ _ (T93.setTop (mkF mM 227 Ls91 [(.int 1)])) _
        refine XS.goto X93.here hx rfl (pc0 := 227) (pc' := 231) rfl (hb hby at_227) (by decide) (by decide) ?_
        show Steps _ _ _ (T93.setTop (mkF mM 231 Ls91 [(.int 1)])) _
        exact retN X93 hx (t := .boolean) Bd.returns (by simp) (hb hby at_231) hr
      · show Q_law Z p0 p1 p2 p3 p4 zc fm h0 n0 _ T93.heap _ T93.vm
        rw [Kq93]
        exact ⟨rfl, N79, K84⟩
      · show CHr Z own_EL sS.vm sS.heap T93.vm T93.heap
        rw [hh, Kq93]
        exact CH80.trans (CHv.at X93 hZ0 hEL CH80.1)
  · let Ls95 : Array Slot := #[.val (.int p0), .val (.int p1), .val (.int p2), .val (.int p3), .val (.int p4), .val (.int 2), .val (.int x0), .val (.int x1), .val (.int x2), .val (.int x3), .unset, .unset, .unset]
    have hbd : ∀ c ∈ ([x0, x1] : List Int32), ¬ c < 0 ∧ ¬ (65535 : Int32) < c := by
      intro c hc
      simp only [List.mem_cons, List.not_mem_nil, or_false] at hc
      rcases hc with rfl | rfl
      all_goals first | exact hxb0 | exact hxb1
    obtain ⟨T96, h96, k96, X96, e96, E96, A96, st96⟩ := newP X8 hx hZ0 (aty := .char) (w_6 hw) Kq8 (g := (mkF mM 72 Ls95 [(.int 2)])) rfl (hb hby at_72) rfl (by decide) (cap := 2) (by decide) (by decide) (by decide) (by decide)
    obtain ⟨b96, g96⟩ : ∃ z, z = h0.size := ⟨_, rfl⟩
    rw [← g96] at A96 st96
    have Sn_b96 : Safe Z own_EL sS.vm h0 b96 := Safe.new (Nat.le_of_eq g96.symm)
    have g_b96 : n0 ≤ b96 := Nat.le_trans (own_osz O0) (Nat.le_of_eq g96.symm)
    have sz_b96 : h0.size ≤ b96 := Nat.le_trans K0.1 (Nat.le_of_eq g96.symm)
    have CH97 : CHr Z own_EL sS.vm h0 sS.vm h96 := CH0.trans (CHr.ext E96 CH0.1)
    have hk98 := Nat.le_trans hk0 E96.1
    have K99 : Keep h0 h96 [] := K0.ext E96
    have V96 : Arv Z h96 b96 k96 .char (2 : Int32) [(.int 0), (.int 0)] (.int 0) := (Arv.new A96 (by decide)).pad (pad_rep [] (.int 0) 2)
    obtain ⟨cl100, Ar100, qk100, S100, Nn100, Hh100, G100⟩ := id V96
    have hin100 : ¬ ((0 : Int32) < 0 ∨ cl100.slots.size ≤ ((0 : Int32)).toNatClampNeg) := inb_of S100 ⟨by decide, by decide⟩
    obtain ⟨T100, h100, X100, e100, W100, st100⟩ := stC X96 hx hZ0 e96 Ar100 (j := (0 : Int32)) hin100 (g := (mkF mM 78 Ls95 [(.int x0), (.int 0), (.ref b96), (.ref b96)])) rfl rfl (hb hby at_78)
    rw [own_nc16 hxb0] at W100
    have f103 := (Safe.ext E96 CH0.1 Sn_b96)
    have sfp102 := f103
    have CH101 : CHr Z own_EL sS.vm h0 sS.vm h100 := CH97.trans (CHr.wr W100 sfp102 CH97.1)
    have hk104 := Nat.le_trans hk98 (Nat.le_of_eq W100.size.symm)
    have K105 : Keep h0 h100 [] := K99.wr W100 (Or.inr sz_b96)
    have V100 : Arv Z h100 b96 k96 .char (2 : Int32) [(.int x0), (.int 0)] (.int 0) := Arv.set Ar100 qk100 S100 Nn100 Hh100 G100 (own_nc16 hxb0 ▸ fits_nar_char _) W100 0 rfl (Nat.le_of_ble_eq_true rfl)
    have N100 := Fr.snoc X100 N0 g_b96
    obtain ⟨cl106, Ar106, qk106, S106, Nn106, Hh106, G106⟩ := id V100
    have hin106 : ¬ ((1 : Int32) < 0 ∨ cl106.slots.size ≤ ((1 : Int32)).toNatClampNeg) := inb_of S106 ⟨by decide, by decide⟩
    obtain ⟨T106, h106, X106, e106, W106, st106⟩ := stC X100 hx hZ0 e100 Ar106 (j := (1 : Int32)) hin106 (g := (mkF mM 83 Ls95 [(.int x1), (.int 1), (.ref b96), (.ref b96)])) rfl rfl (hb hby at_83)
    rw [own_nc16 hxb1] at W106
    have f109 := (Safe.wr W100 sfp102 CH97.1 f103)
    have sfp108 := f109
    have CH107 : CHr Z own_EL sS.vm h0 sS.vm h106 := CH101.trans (CHr.wr W106 sfp108 CH101.1)
    have hk110 := Nat.le_trans hk104 (Nat.le_of_eq W106.size.symm)
    have K111 : Keep h0 h106 [] := K105.wr W106 (Or.inr sz_b96)
    have V106 : Arv Z h106 b96 k96 .char (2 : Int32) [(.int x0), (.int x1)] (.int 0) := Arv.set Ar106 qk106 S106 Nn106 Hh106 G106 (own_nc16 hxb1 ▸ fits_nar_char _) W106 1 rfl (Nat.le_of_ble_eq_true rfl)
    have N106 := Fr.snoc X106 N100 g_b96
    let Ls112 : Array Slot := #[.val (.int p0), .val (.int p1), .val (.int p2), .val (.int p3), .val (.int p4), .val (.int 2), .val (.int x0), .val (.int x1), .val (.int x2), .val (.int x3), .val (.ref b96), .unset, .unset]
    have pre114 : ∀ tg, Steps pP.tables eE below (T106.setTop (mkF mM 143 Ls112 [])) tg → Steps pP.tables eE below (s₁.setTop (entryFrame mM #[(.int p0), (.int p1), (.int p2), (.int p3), (.int p4)] maxLocals)) tg := fun tg kg => pre10 tg (by
      refine XS.iload X8.here hx rfl (hb hby at_33) rfl ?_
      show Steps _ _ _ (T8.setTop (mkF mM 35 Ls95 [(.int 2)])) _
      refine XS.ifYes X8.here hx rfl (pc0 := 35) (pc' := 46) rfl (hb hby at_35) rfl ((if0 _ _).trans (feq (by decide : ¬ ((2 : Int32) = (0 : Int32)))).2) (by decide) (by decide) ?_
      show Steps _ _ _ (T8.setTop (mkF mM 46 Ls95 [])) _
      refine XS.iload X8.here hx rfl (hb hby at_46) rfl ?_
      show Steps _ _ _ (T8.setTop (mkF mM 48 Ls95 [(.int 2)])) _
      refine XS.iconst X8.here hx rfl (hb hby at_48) ?_
      show Steps _ _ _ (T8.setTop (mkF mM 49 Ls95 [(.int 1), (.int 2)])) _
      refine XS.icmpYes X8.here hx rfl (pc0 := 49) (pc' := 65) rfl (hb hby at_49) rfl (feq (by decide : ¬ ((2 : Int32) = (1 : Int32)))).2 (by decide) (by decide) ?_
      show Steps _ _ _ (T8.setTop (mkF mM 65 Ls95 [])) _
      refine XS.iload X8.here hx rfl (hb hby at_65) rfl ?_
      show Steps _ _ _ (T8.setTop (mkF mM 67 Ls95 [(.int 2)])) _
      refine XS.iconst X8.here hx rfl (hb hby at_67) ?_
      show Steps _ _ _ (T8.setTop (mkF mM 68 Ls95 [(.int 2), (.int 2)])) _
      refine XS.icmpNo X8.here hx rfl (hb hby at_68) rfl (teq (by decide : (2 : Int32) = (2 : Int32))).2 ?_
      show Steps _ _ _ (T8.setTop (mkF mM 71 Ls95 [])) _
      refine XS.iconst X8.here hx rfl (hb hby at_71) ?_
      show Steps _ _ _ (T8.setTop (mkF mM 72 Ls95 [(.int 2)])) _
      refine st96 _ ?_
      show Steps _ _ _ (T96.setTop (mkF mM 74 Ls95 [(.ref b96)])) _
      refine XS.dup X96.here hx rfl (hb hby at_74) rfl rfl ?_
      show Steps _ _ _ (T96.setTop (mkF mM 75 Ls95 [(.ref b96), (.ref b96)])) _
      refine XS.iconst X96.here hx rfl (hb hby at_75) ?_
      show Steps _ _ _ (T96.setTop (mkF mM 76 Ls95 [(.int 0), (.ref b96), (.ref b96)])) _
      refine XS.iload X96.here hx rfl (hb hby at_76) rfl ?_
      show Steps _ _ _ (T96.setTop (mkF mM 78 Ls95 [(.int x0), (.int 0), (.ref b96), (.ref b96)])) _
      refine st100 _ ?_
      show Steps _ _ _ (T100.setTop (mkF mM 79 Ls95 [(.ref b96)])) _
      refine XS.dup X100.here hx rfl (hb hby at_79) rfl rfl ?_
      show Steps _ _ _ (T100.setTop (mkF mM 80 Ls95 [(.ref b96), (.ref b96)])) _
      refine XS.iconst X100.here hx rfl (hb hby at_80) ?_
      show Steps _ _ _ (T100.setTop (mkF mM 81 Ls95 [(.int 1), (.ref b96), (.ref b96)])) _
      refine XS.iload X100.here hx rfl (hb hby at_81) rfl ?_
      show Steps _ _ _ (T100.setTop (mkF mM 83 Ls95 [(.int x1), (.int 1), (.ref b96), (.ref b96)])) _
      refine st106 _ ?_
      show Steps _ _ _ (T106.setTop (mkF mM 84 Ls95 [(.ref b96)])) _
      refine XS.astore X106.here hx rfl (hb hby at_84) rfl rfl (l' := Ls112) rfl ?_
      show Steps _ _ _ (T106.setTop (mkF mM 86 Ls112 [])) _
      refine XS.goto X106.here hx rfl (pc0 := 86) (pc' := 143) rfl (hb hby at_86) (by decide) (by decide) ?_
      exact kg)
    by_cases hfi113 : (own_fi ([x0, x1] : List Int32)) < 2
    · obtain ⟨T115, h115, X115, e115, E115, A115, D115, -, st115⟩ := newO X106 hx hZ0 hown0 (w_7 hw) (w_8 hw) (w_9 hw) e106 (g := (mkF mM 143 Ls112 [])) rfl (hb hby at_143) (by decide) (by decide)
      obtain ⟨b115, g115⟩ : ∃ z, z = h106.size := ⟨_, rfl⟩
      rw [← g115] at A115 D115 st115
      have Sn_b115 : Safe Z own_EL sS.vm h106 b115 := Safe.new (Nat.le_of_eq g115.symm)
      have f116 := (((O0.ext E96).wr W100 g_b96).wr W106 g_b96)
      have g_b115 : n0 ≤ b115 := Nat.le_trans (own_osz f116) (Nat.le_of_eq g115.symm)
      have sz_b115 : h0.size ≤ b115 := Nat.le_trans K111.1 (Nat.le_of_eq g115.symm)
      have CH117 : CHr Z own_EL sS.vm h0 sS.vm h115 := CH107.trans (CHr.ext E115 CH107.1)
      have hk118 := Nat.le_trans hk110 E115.1
      have K119 : Keep h0 h115 [] := K111.ext E115
      have F_b115_value : Fld Z h115 b115 "java/lang/String" "value" "[B" .null := D115 (Or.inr (w_22 hw)) (ty := (.array .byte)) (by decide)
      have F_b115_coder : Fld Z h115 b115 "java/lang/String" "coder" "B" (.int 0) := D115 (Or.inr (w_23 hw)) (ty := .byte) (by decide)
      have f120 := (V106.ext E115)
      have f121 := (f116.ext E115)
      obtain ⟨_, _, ⟨T122, L122, k122, n122⟩, -, X122, ⟨Lc122, hQ122, l122, y122, z122⟩, st122⟩ := X115.specialBack hx (y := (⟨"java/lang/String", "<init>", "([C)V"⟩ : MethodName)) rfl hown0 (mvT hZ0 (w_10 hw)) (mvT hZ0 (w_11 hw)) (mvT hZ0 (w_12 hw)) (by decide) (backOf (W := 1) (rm_in12 l Z a0 hw [] b115 b96 k96 .null (.int 0) x0 x1 zc h115 n0 f121 A115 F_b115_value F_b115_coder g_b115 f120 hfi113 (hbd : ∀ c ∈ ([x0, x1] : List Int32), ¬ c < 0 ∧ ¬ (65535 : Int32) < c) S__assertionsDisabled S_HI_BYTE_SHIFT S_LO_BYTE_SHIFT S_COMPACT_STRINGS hp1) hZ0 (w_12 hw) (w_9 hw) (by decide) (by decide)) (g := (mkF mM 149 Ls112 [(.ref b96), (.ref b115), (.ref b115)])) rfl (by rw [hml]; rfl) (Steps.refl _) (a := b115) (argsL := [(.ref b96)]) (rest := [(.ref b115)]) (lenOf pd_19 rfl) rfl (by show 2 * 0 + _ ≤ _; exact Nat.le_of_eq rfl) (hb hby at_149) (fun _ _ => ⟨rfl, e115, (by decide : 2 + 2 ≤ _), (by decide : 6 + 10 ≤ _)⟩)
      dsimp only [Pt.U, Pt.locs, Pt.cells, Pt.slots] at X122 l122 y122 z122 st122 hQ122
      subst l122 y122 z122
      obtain ⟨t_122, k_122, rfl, Nq122, Kq122, q122_0, q122_1, q122_2, q122_3, q122_4⟩ := hQ122
      have N122 := Fr.app N106 Nq122
      have g_t_122 : n0 ≤ t_122 := Nat.le_trans (own_osz f121) q122_3
      have sz_t_122 : h0.size ≤ t_122 := Nat.le_trans K119.1 q122_3
      have f124 := (Safe.ext E115 CH107.1 Sn_b115)
      have sfp125 := (sfS f124 sf0)
      have CH123 : CHr Z own_EL sS.vm h0 sS.vm T122.heap := CH117.trans (CHr.keep Kq122 sfp125 CH117.1)
      have hk126 := Nat.le_trans hk118 Kq122.1
      have K127 : Keep h0 T122.heap [] := K119.trans Kq122 (allS (Or.inr sz_b115) all0)
      let Ls128 : Array Slot := #[.val (.int p0), .val (.int p1), .val (.int p2), .val (.int p3), .val (.int p4), .val (.int 2), .val (.int x0), .val (.int x1), .val (.int x2), .val (.int x3), .val (.ref b96), .val (.ref b115), .unset]
      obtain ⟨T129, X129, e129, st129⟩ := own_to X122 (h := T122.heap) (g := (mkF mM 154 Ls128 [])) (g' := (mkF mM 214 Ls128 [(.int (own_ex ([x0, x1] : List Int32)))])) (by
        have f130 := (f121.keep Kq122 (allS g_b115 all0))
        obtain ⟨_, _, ⟨T131, L131, k131, n131⟩, -, X131, ⟨Lc131, hQ131, l131, y131, z131⟩, st131⟩ := Jvm.LawKit.callS X122 hx (y := (⟨"com/example/ullr/ullr/files/GlobIsGlobPinLaw", "wild", "(C)Z"⟩ : MethodName)) hown0 (mvT hZ0 (w_82 hw)) (mvT hZ0 (w_83 hw)) (mvT hZ0 (w_3 hw)) (mvT hZ0 (w_84 hw)) (by decide) (backOf (W := 0) (rm_wild l Z a0 hw [] x0 T122.heap n0 f130 ) hZ0 (w_84 hw) (w_3 hw) (by decide) (by decide)) (g := (mkF mM 161 Ls128 [(.int x0)])) rfl (by rw [hml]; rfl) (argsL := [(.int x0)]) (rest := []) (lenOf pd_21 rfl) rfl (by show 2 * 0 + _ ≤ _; exact Nat.le_of_eq rfl) (hb hby at_161) (fun _ _ => ⟨rfl, rfl, (by decide : 4 + 0 ≤ _), (by decide : 16 + 0 ≤ _)⟩)
        dsimp only [Pt.U, Pt.locs, Pt.cells, Pt.slots] at X131 l131 y131 z131 st131 hQ131
        subst l131 y131 z131
        obtain ⟨rfl, rfl, Kq131⟩ := hQ131
        try rw [List.append_nil] at X131
        have pre133 : ∀ tg, Steps pP.tables eE below (T131.setTop (mkF mM 164 Ls128 [(.int (own_wild x0))])) tg → Steps pP.tables eE below (T122.setTop (mkF mM 154 Ls128 [])) tg := fun tg kg => (by
          refine XS.iload X122.here hx rfl (hb hby at_154) rfl ?_
          show Steps _ _ _ (T122.setTop (mkF mM 156 Ls128 [(.int 2)])) _
          refine XS.ifNo X122.here hx rfl (hb hby at_156) rfl ((if0 _ _).trans (tlt (by decide : (0 : Int32) < (2 : Int32))).2.2.2) ?_
          show Steps _ _ _ (T122.setTop (mkF mM 159 Ls128 [])) _
          refine XS.iload X122.here hx rfl (hb hby at_159) rfl ?_
          show Steps _ _ _ (T122.setTop (mkF mM 161 Ls128 [(.int x0)])) _
          refine st131 _ ?_
          exact kg)
        by_cases hc132 : (own_wild x0) = (0 : Int32)
        · obtain ⟨_, _, ⟨T134, L134, k134, n134⟩, -, X134, ⟨Lc134, hQ134, l134, y134, z134⟩, st134⟩ := Jvm.LawKit.callS X131 hx (y := (⟨"com/example/ullr/ullr/files/GlobIsGlobPinLaw", "wild", "(C)Z"⟩ : MethodName)) hown0 (mvT hZ0 (w_82 hw)) (mvT hZ0 (w_83 hw)) (mvT hZ0 (w_3 hw)) (mvT hZ0 (w_84 hw)) (by decide) (backOf (W := 0) (rm_wild l Z a0 hw [] x1 T122.heap n0 f130 ) hZ0 (w_84 hw) (w_3 hw) (by decide) (by decide)) (g := (mkF mM 175 Ls128 [(.int x1)])) rfl (by rw [hml]; rfl) (argsL := [(.int x1)]) (rest := []) (lenOf pd_21 rfl) rfl (by show 2 * 0 + _ ≤ _; exact Nat.le_of_eq rfl) (hb hby at_175) (fun _ _ => ⟨rfl, Kq131, (by decide : 4 + 0 ≤ _), (by decide : 16 + 0 ≤ _)⟩)
          dsimp only [Pt.U, Pt.locs, Pt.cells, Pt.slots] at X134 l134 y134 z134 st134 hQ134
          subst l134 y134 z134
          obtain ⟨rfl, rfl, Kq134⟩ := hQ134
          try rw [List.append_nil] at X134
          have pre136 : ∀ tg, Steps pP.tables eE below (T134.setTop (mkF mM 178 Ls128 [(.int (own_wild x1))])) tg → Steps pP.tables eE below (T122.setTop (mkF mM 154 Ls128 [])) tg := fun tg kg => pre133 tg (by
            refine XS.ifNo X131.here hx rfl (hb hby at_164) rfl ((if0 _ _).trans (teq hc132).2) ?_
            show Steps _ _ _ (T131.setTop (mkF mM 167 Ls128 [])) _
            refine XS.iload X131.here hx rfl (hb hby at_167) rfl ?_
            show Steps _ _ _ (T131.setTop (mkF mM 169 Ls128 [(.int 2)])) _
            refine XS.iconst X131.here hx rfl (hb hby at_169) ?_
            show Steps _ _ _ (T131.setTop (mkF mM 170 Ls128 [(.int 1), (.int 2)])) _
            refine XS.icmpNo X131.here hx rfl (hb hby at_170) rfl (tlt (by decide : (1 : Int32) < (2 : Int32))).2.2.2 ?_
            show Steps _ _ _ (T131.setTop (mkF mM 173 Ls128 [])) _
            refine XS.iload X131.here hx rfl (hb hby at_173) rfl ?_
            show Steps _ _ _ (T131.setTop (mkF mM 175 Ls128 [(.int x1)])) _
            refine st134 _ ?_
            exact kg)
          by_cases hc135 : (own_wild x1) = (0 : Int32)
          · refine ⟨T134, X134, Kq134, fun tg kg => ?_⟩
            rw [show (own_ex ([x0, x1] : List Int32)) = (0 : Int32) from by simp only [own_ex, if_pos hc132, if_pos hc135]] at kg
            refine pre136 tg ?_
            refine XS.ifNo X134.here hx rfl (hb hby at_178) rfl ((if0 _ _).trans (teq hc135).2) ?_
            show Steps _ _ _ (T134.setTop (mkF mM 181 Ls128 [])) _
            refine XS.iload X134.here hx rfl (hb hby at_181) rfl ?_
            show Steps _ _ _ (T134.setTop (mkF mM 183 Ls128 [(.int 2)])) _
            refine XS.iconst X134.here hx rfl (hb hby at_183) ?_
            show Steps _ _ _ (T134.setTop (mkF mM 184 Ls128 [(.int 2), (.int 2)])) _
            refine XS.icmpYes X134.here hx rfl (pc0 := 184) (pc' := 195) rfl (hb hby at_184) rfl (flt (by decide : ¬ ((2 : Int32) < (2 : Int32)))).2.2.2 (by decide) (by decide) ?_
            show Steps _ _ _ (T134.setTop (mkF mM 195 Ls128 [])) _
            refine XS.iload X134.here hx rfl (hb hby at_195) rfl ?_
            show Steps _ _ _ (T134.setTop (mkF mM 197 Ls128 [(.int 2)])) _
            refine XS.iconst X134.here hx rfl (hb hby at_197) ?_
            show Steps _ _ _ (T134.setTop (mkF mM 198 Ls128 [(.int 3), (.int 2)])) _
            refine XS.icmpYes X134.here hx rfl (pc0 := 198) (pc' := 213) rfl (hb hby at_198) rfl (flt (by decide : ¬ ((3 : Int32) < (2 : Int32)))).2.2.2 (by decide) (by decide) ?_
            show Steps _ _ _ (T134.setTop (mkF mM 213 Ls128 [])) _
            refine XS.iconst X134.here hx rfl (hb hby at_213) ?_
            exact kg
          · refine ⟨T134, X134, Kq134, fun tg kg => ?_⟩
            rw [show (own_ex ([x0, x1] : List Int32)) = (1 : Int32) from by simp only [own_ex, if_pos hc132, if_neg hc135]] at kg
            refine pre136 tg ?_
            refine XS.ifYes X134.here hx rfl (pc0 := 178) (pc' := 209) rfl (hb hby at_178) rfl ((if0 _ _).trans (feq hc135).2) (by decide) (by decide) ?_
            show Steps _ _ _ (T134.setTop (mkF mM 209 Ls128 [])) _
            refine XS.iconst X134.here hx rfl (hb hby at_209) ?_
            show Steps _ _ _ (T134.setTop (mkF mM 210 Ls128 [(.int 1)])) _
            refine XS.goto X134.here hx rfl (pc0 := 210) (pc' := 214) rfl (hb hby at_210) (by decide) (by decide) ?_
            exact kg
        · refine ⟨T131, X131, Kq131, fun tg kg => ?_⟩
          rw [show (own_ex ([x0, x1] : List Int32)) = (1 : Int32) from by simp only [own_ex, if_neg hc132]] at kg
          refine pre133 tg ?_
          refine XS.ifYes X131.here hx rfl (pc0 := 164) (pc' := 209) rfl (hb hby at_164) rfl ((if0 _ _).trans (feq hc132).2) (by decide) (by decide) ?_
          show Steps _ _ _ (T131.setTop (mkF mM 209 Ls128 [])) _
          refine XS.iconst X131.here hx rfl (hb hby at_209) ?_
          show Steps _ _ _ (T131.setTop (mkF mM 210 Ls128 [(.int 1)])) _
          refine XS.goto X131.here hx rfl (pc0 := 210) (pc' := 214) rfl (hb hby at_210) (by decide) (by decide) ?_
          exact kg)
      let Ls137 : Array Slot := #[.val (.int p0), .val (.int p1), .val (.int p2), .val (.int p3), .val (.int p4), .val (.int 2), .val (.int x0), .val (.int x1), .val (.int x2), .val (.int x3), .val (.ref b96), .val (.ref b115), .val (.int (own_ex ([x0, x1] : List Int32)))]
      have f138 := (f121.keep Kq122 (allS g_b115 all0))
      obtain ⟨_, _, ⟨T139, L139, k139, n139⟩, -, X139, ⟨Lc139, hQ139, l139, y139, z139⟩, st139⟩ := Jvm.LawKit.callS X129 hx (y := (⟨"com/example/ullr/ullr/files/Glob", "isGlob", "(Ljava/lang/String;)Z"⟩ : MethodName)) hown0 (mvT hZ0 (w_28 hw)) (mvT hZ0 (w_29 hw)) (mvT hZ0 (w_30 hw)) (mvT hZ0 (w_31 hw)) (by decide) (backOf (W := 0) (rm_glU l Z a0 hw [] b115 t_122 k_122 2 ([x0, x1]) zc fm T122.heap n0 f138 q122_0 q122_1 q122_2 q122_4 (⟨rfl, by decide⟩ : [x0, x1].length = 2 ∧ 2 ≤ 4) (hbd : ∀ c ∈ [x0, x1], ¬ c < 0 ∧ ¬ (65535 : Int32) < c) S__assertionsDisabled S_HI_BYTE_SHIFT S_LO_BYTE_SHIFT S_COMPACT_STRINGS hp1 S_SIOOBE_FORMATTER hp3 (by decide : 0 < 2)) hZ0 (w_31 hw) (w_30 hw) (by decide) (by decide)) (g := (mkF mM 218 Ls137 [(.ref b115)])) rfl (by rw [hml]; rfl) (argsL := [(.ref b115)]) (rest := []) (lenOf pd_20 rfl) rfl (by show 2 * 0 + _ ≤ _; exact Nat.le_of_eq rfl) (hb hby at_218) (fun _ _ => ⟨rfl, e129, (by decide : 4 + 0 ≤ _), (by decide : 16 + 0 ≤ _)⟩)
      dsimp only [Pt.U, Pt.locs, Pt.cells, Pt.slots] at X139 l139 y139 z139 st139 hQ139
      subst l139 y139 z139
      obtain ⟨rfl, rfl, Kq139⟩ := hQ139
      try rw [List.append_nil] at X139
      obtain ⟨fs, hr, hrun, hended, hR1, hR2, hR3, hR4⟩ := Stand.leaveW (s := sS) (vm₁ := sS.vm) X139 hS0 (by rw [Kq139]; exact hk126) (v := some (.int 1)) (fun h => by rw [Bd.returns] at h; cases h)
      refine ⟨_, _, pre114 _ ?_, hrun, hended, _, _, rfl, ?_, ?_, hR1, hR2, hR3, hR4.mono (by decide) (by decide)⟩
      · refine st115 _ ?_
        show Steps _ _ _ (T115.setTop (mkF mM 146 Ls112 [(.ref b115)])) _
        refine XS.dup X115.here hx rfl (hb hby at_146) rfl rfl ?_
        show Steps _ _ _ (T115.setTop (mkF mM 147 Ls112 [(.ref b115), (.ref b115)])) _
        refine XS.aload X115.here hx rfl (hb hby at_147) rfl rfl ?_
        show Steps _ _ _ (T115.setTop (mkF mM 149 Ls112 [(.ref b96), (.ref b115), (.ref b115)])) _
        refine st122.trans ?_
        show Steps _ _ _ (T122.setTop (mkF mM 152 Ls112 [(.ref b115)])) _
        refine XS.astore X122.here hx rfl (hb hby at_152) rfl rfl (l' := Ls128) rfl ?_
        show Steps _ _ _ (T122.setTop (mkF mM 154 Ls128 [])) _
        refine st129 _ ?_
        show Steps _ _ _ (T129.setTop (mkF mM 214 Ls128 [(.int (own_ex ([x0, x1] : List Int32)))])) _
        refine XS.istore X129.here hx rfl (hb hby at_214) rfl (l' := Ls137) rfl ?_
        show Steps _ _ _ (T129.setTop (mkF mM 216 Ls137 [])) _
        refine XS.aload X129.here hx rfl (hb hby at_216) rfl rfl ?_
        show Steps _ _ _ (T129.setTop (mkF mM 218 Ls137 [(.ref b115)])) _
        refine st139 _ ?_
        show Steps _ _ _ (T139.setTop (mkF mM 221 Ls137 [(.int (own_gl [x0, x1] 2))])) _
        refine XS.iload X139.here hx rfl (hb hby at_221) rfl ?_
        show Steps _ _ _ (T139.setTop (mkF mM 223 Ls137 [(.int (own_ex ([x0, x1] : List Int32))), (.int (own_gl [x0, x1] 2))])) _
        refine XS.icmpNo X139.here hx rfl (hb hby at_223) rfl (teq (own_gl_ex ([x0, x1] : List Int32) _ rfl (Nat.le_of_ble_eq_true rfl))).2 ?_
        show Steps _ _ _ (T139.setTop (mkF mM 226 Ls137 [])) _
        refine XS.iconst X139.here hx rfl (hb hby at_226) ?_
        show Steps _ _ _ (T139.setTop (mkF mM 227 Ls137 [(.int 1)])) _
        refine XS.goto X139.here hx rfl (pc0 := 227) (pc' := 231) rfl (hb hby at_227) (by decide) (by decide) ?_
        show Steps _ _ _ (T139.setTop (mkF mM 231 Ls137 [(.int 1)])) _
        exact retN X139 hx (t := .boolean) Bd.returns (by simp) (hb hby at_231) hr
      · show Q_law Z p0 p1 p2 p3 p4 zc fm h0 n0 _ T139.heap _ T139.vm
        rw [Kq139]
        exact ⟨rfl, N122, K127⟩
      · show CHr Z own_EL sS.vm sS.heap T139.vm T139.heap
        rw [hh, Kq139]
        exact CH123.trans (CHv.at X139 hZ0 hEL CH123.1)
    · have hcs : ∀ c ∈ ([x0, x1] : List Int32), ¬ c < 0 ∧ ¬ (255 : Int32) < c := fun c hc => ⟨(hbd c hc).1, own_fi_all _ hfi113 c hc⟩
      obtain ⟨T141, h141, X141, e141, E141, A141, D141, -, st141⟩ := newO X106 hx hZ0 hown0 (w_7 hw) (w_8 hw) (w_9 hw) e106 (g := (mkF mM 143 Ls112 [])) rfl (hb hby at_143) (by decide) (by decide)
      obtain ⟨b141, g141⟩ : ∃ z, z = h106.size := ⟨_, rfl⟩
      rw [← g141] at A141 D141 st141
      have Sn_b141 : Safe Z own_EL sS.vm h106 b141 := Safe.new (Nat.le_of_eq g141.symm)
      have f142 := (((O0.ext E96).wr W100 g_b96).wr W106 g_b96)
      have g_b141 : n0 ≤ b141 := Nat.le_trans (own_osz f142) (Nat.le_of_eq g141.symm)
      have sz_b141 : h0.size ≤ b141 := Nat.le_trans K111.1 (Nat.le_of_eq g141.symm)
      have CH143 : CHr Z own_EL sS.vm h0 sS.vm h141 := CH107.trans (CHr.ext E141 CH107.1)
      have hk144 := Nat.le_trans hk110 E141.1
      have K145 : Keep h0 h141 [] := K111.ext E141
      have F_b141_value : Fld Z h141 b141 "java/lang/String" "value" "[B" .null := D141 (Or.inr (w_22 hw)) (ty := (.array .byte)) (by decide)
      have F_b141_coder : Fld Z h141 b141 "java/lang/String" "coder" "B" (.int 0) := D141 (Or.inr (w_23 hw)) (ty := .byte) (by decide)
      have f146 := (f142.ext E141)
      have f147 := (V106.ext E141)
      obtain ⟨_, _, ⟨T148, L148, k148, n148⟩, -, X148, ⟨Lc148, hQ148, l148, y148, z148⟩, st148⟩ := X141.specialBack hx (y := (⟨"java/lang/String", "<init>", "([C)V"⟩ : MethodName)) rfl hown0 (mvT hZ0 (w_10 hw)) (mvT hZ0 (w_11 hw)) (mvT hZ0 (w_12 hw)) (by decide) (own_new (W := 1) hZ0 hw (cs := [x0, x1]) (n := 2) g_b141 (own_osz f146) A141 F_b141_value F_b141_coder f147 (Sta.ext (f146).2 S_COMPACT_STRINGS) hp1 rfl rfl (by decide) (by decide) hcs (by decide) (by decide)) (g := (mkF mM 149 Ls112 [(.ref b96), (.ref b141), (.ref b141)])) rfl (by rw [hml]; rfl) (Steps.refl _) (a := b141) (argsL := [(.ref b96)]) (rest := [(.ref b141)]) (lenOf pd_19 rfl) rfl (by show 2 * 0 + _ ≤ _; exact Nat.le_of_eq rfl) (hb hby at_149) (fun _ _ => ⟨rfl, e141, (by decide : 2 + 1 ≤ _), (by decide : 6 + 2 ≤ _)⟩)
      dsimp only [Pt.U, Pt.locs, Pt.cells, Pt.slots] at X148 l148 y148 z148 st148 hQ148
      subst l148 y148 z148
      obtain ⟨rfl, Nq148, Kq148, t148, kb148, hs148, Sq148⟩ := hQ148
      have N148 := Fr.app N106 Nq148
      have g_t148 : n0 ≤ t148 := Nat.le_trans (own_osz f146) hs148
      have sz_t148 : h0.size ≤ t148 := Nat.le_trans K145.1 hs148
      have f150 := (Safe.ext E141 CH107.1 Sn_b141)
      have sfp151 := (sfS f150 sf0)
      have CH149 : CHr Z own_EL sS.vm h0 sS.vm T148.heap := CH143.trans (CHr.keep Kq148 sfp151 CH143.1)
      have hk152 := Nat.le_trans hk144 Kq148.1
      have K153 : Keep h0 T148.heap [] := K145.trans Kq148 (allS (Or.inr sz_b141) all0)
      let Ls154 : Array Slot := #[.val (.int p0), .val (.int p1), .val (.int p2), .val (.int p3), .val (.int p4), .val (.int 2), .val (.int x0), .val (.int x1), .val (.int x2), .val (.int x3), .val (.ref b96), .val (.ref b141), .unset]
      obtain ⟨T155, X155, e155, st155⟩ := own_to X148 (h := T148.heap) (g := (mkF mM 154 Ls154 [])) (g' := (mkF mM 214 Ls154 [(.int (own_ex ([x0, x1] : List Int32)))])) (by
        have f156 := (f146.keep Kq148 (allS g_b141 all0))
        obtain ⟨_, _, ⟨T157, L157, k157, n157⟩, -, X157, ⟨Lc157, hQ157, l157, y157, z157⟩, st157⟩ := Jvm.LawKit.callS X148 hx (y := (⟨"com/example/ullr/ullr/files/GlobIsGlobPinLaw", "wild", "(C)Z"⟩ : MethodName)) hown0 (mvT hZ0 (w_82 hw)) (mvT hZ0 (w_83 hw)) (mvT hZ0 (w_3 hw)) (mvT hZ0 (w_84 hw)) (by decide) (backOf (W := 0) (rm_wild l Z a0 hw [] x0 T148.heap n0 f156 ) hZ0 (w_84 hw) (w_3 hw) (by decide) (by decide)) (g := (mkF mM 161 Ls154 [(.int x0)])) rfl (by rw [hml]; rfl) (argsL := [(.int x0)]) (rest := []) (lenOf pd_21 rfl) rfl (by show 2 * 0 + _ ≤ _; exact Nat.le_of_eq rfl) (hb hby at_161) (fun _ _ => ⟨rfl, rfl, (by decide : 3 + 0 ≤ _), (by decide : 8 + 0 ≤ _)⟩)
        dsimp only [Pt.U, Pt.locs, Pt.cells, Pt.slots] at X157 l157 y157 z157 st157 hQ157
        subst l157 y157 z157
        obtain ⟨rfl, rfl, Kq157⟩ := hQ157
        try rw [List.append_nil] at X157
        have pre159 : ∀ tg, Steps pP.tables eE below (T157.setTop (mkF mM 164 Ls154 [(.int (own_wild x0))])) tg → Steps pP.tables eE below (T148.setTop (mkF mM 154 Ls154 [])) tg := fun tg kg => (by
          refine XS.iload X148.here hx rfl (hb hby at_154) rfl ?_
          show Steps _ _ _ (T148.setTop (mkF mM 156 Ls154 [(.int 2)])) _
          refine XS.ifNo X148.here hx rfl (hb hby at_156) rfl ((if0 _ _).trans (tlt (by decide : (0 : Int32) < (2 : Int32))).2.2.2) ?_
          show Steps _ _ _ (T148.setTop (mkF mM 159 Ls154 [])) _
          refine XS.iload X148.here hx rfl (hb hby at_159) rfl ?_
          show Steps _ _ _ (T148.setTop (mkF mM 161 Ls154 [(.int x0)])) _
          refine st157 _ ?_
          exact kg)
        by_cases hc158 : (own_wild x0) = (0 : Int32)
        · obtain ⟨_, _, ⟨T160, L160, k160, n160⟩, -, X160, ⟨Lc160, hQ160, l160, y160, z160⟩, st160⟩ := Jvm.LawKit.callS X157 hx (y := (⟨"com/example/ullr/ullr/files/GlobIsGlobPinLaw", "wild", "(C)Z"⟩ : MethodName)) hown0 (mvT hZ0 (w_82 hw)) (mvT hZ0 (w_83 hw)) (mvT hZ0 (w_3 hw)) (mvT hZ0 (w_84 hw)) (by decide) (backOf (W := 0) (rm_wild l Z a0 hw [] x1 T148.heap n0 f156 ) hZ0 (w_84 hw) (w_3 hw) (by decide) (by decide)) (g := (mkF mM 175 Ls154 [(.int x1)])) rfl (by rw [hml]; rfl) (argsL := [(.int x1)]) (rest := []) (lenOf pd_21 rfl) rfl (by show 2 * 0 + _ ≤ _; exact Nat.le_of_eq rfl) (hb hby at_175) (fun _ _ => ⟨rfl, Kq157, (by decide : 3 + 0 ≤ _), (by decide : 8 + 0 ≤ _)⟩)
          dsimp only [Pt.U, Pt.locs, Pt.cells, Pt.slots] at X160 l160 y160 z160 st160 hQ160
          subst l160 y160 z160
          obtain ⟨rfl, rfl, Kq160⟩ := hQ160
          try rw [List.append_nil] at X160
          have pre162 : ∀ tg, Steps pP.tables eE below (T160.setTop (mkF mM 178 Ls154 [(.int (own_wild x1))])) tg → Steps pP.tables eE below (T148.setTop (mkF mM 154 Ls154 [])) tg := fun tg kg => pre159 tg (by
            refine XS.ifNo X157.here hx rfl (hb hby at_164) rfl ((if0 _ _).trans (teq hc158).2) ?_
            show Steps _ _ _ (T157.setTop (mkF mM 167 Ls154 [])) _
            refine XS.iload X157.here hx rfl (hb hby at_167) rfl ?_
            show Steps _ _ _ (T157.setTop (mkF mM 169 Ls154 [(.int 2)])) _
            refine XS.iconst X157.here hx rfl (hb hby at_169) ?_
            show Steps _ _ _ (T157.setTop (mkF mM 170 Ls154 [(.int 1), (.int 2)])) _
            refine XS.icmpNo X157.here hx rfl (hb hby at_170) rfl (tlt (by decide : (1 : Int32) < (2 : Int32))).2.2.2 ?_
            show Steps _ _ _ (T157.setTop (mkF mM 173 Ls154 [])) _
            refine XS.iload X157.here hx rfl (hb hby at_173) rfl ?_
            show Steps _ _ _ (T157.setTop (mkF mM 175 Ls154 [(.int x1)])) _
            refine st160 _ ?_
            exact kg)
          by_cases hc161 : (own_wild x1) = (0 : Int32)
          · refine ⟨T160, X160, Kq160, fun tg kg => ?_⟩
            rw [show (own_ex ([x0, x1] : List Int32)) = (0 : Int32) from by simp only [own_ex, if_pos hc158, if_pos hc161]] at kg
            refine pre162 tg ?_
            refine XS.ifNo X160.here hx rfl (hb hby at_178) rfl ((if0 _ _).trans (teq hc161).2) ?_
            show Steps _ _ _ (T160.setTop (mkF mM 181 Ls154 [])) _
            refine XS.iload X160.here hx rfl (hb hby at_181) rfl ?_
            show Steps _ _ _ (T160.setTop (mkF mM 183 Ls154 [(.int 2)])) _
            refine XS.iconst X160.here hx rfl (hb hby at_183) ?_
            show Steps _ _ _ (T160.setTop (mkF mM 184 Ls154 [(.int 2), (.int 2)])) _
            refine XS.icmpYes X160.here hx rfl (pc0 := 184) (pc' := 195) rfl (hb hby at_184) rfl (flt (by decide : ¬ ((2 : Int32) < (2 : Int32)))).2.2.2 (by decide) (by decide) ?_
            show Steps _ _ _ (T160.setTop (mkF mM 195 Ls154 [])) _
            refine XS.iload X160.here hx rfl (hb hby at_195) rfl ?_
            show Steps _ _ _ (T160.setTop (mkF mM 197 Ls154 [(.int 2)])) _
            refine XS.iconst X160.here hx rfl (hb hby at_197) ?_
            show Steps _ _ _ (T160.setTop (mkF mM 198 Ls154 [(.int 3), (.int 2)])) _
            refine XS.icmpYes X160.here hx rfl (pc0 := 198) (pc' := 213) rfl (hb hby at_198) rfl (flt (by decide : ¬ ((3 : Int32) < (2 : Int32)))).2.2.2 (by decide) (by decide) ?_
            show Steps _ _ _ (T160.setTop (mkF mM 213 Ls154 [])) _
            refine XS.iconst X160.here hx rfl (hb hby at_213) ?_
            exact kg
          · refine ⟨T160, X160, Kq160, fun tg kg => ?_⟩
            rw [show (own_ex ([x0, x1] : List Int32)) = (1 : Int32) from by simp only [own_ex, if_pos hc158, if_neg hc161]] at kg
            refine pre162 tg ?_
            refine XS.ifYes X160.here hx rfl (pc0 := 178) (pc' := 209) rfl (hb hby at_178) rfl ((if0 _ _).trans (feq hc161).2) (by decide) (by decide) ?_
            show Steps _ _ _ (T160.setTop (mkF mM 209 Ls154 [])) _
            refine XS.iconst X160.here hx rfl (hb hby at_209) ?_
            show Steps _ _ _ (T160.setTop (mkF mM 210 Ls154 [(.int 1)])) _
            refine XS.goto X160.here hx rfl (pc0 := 210) (pc' := 214) rfl (hb hby at_210) (by decide) (by decide) ?_
            exact kg
        · refine ⟨T157, X157, Kq157, fun tg kg => ?_⟩
          rw [show (own_ex ([x0, x1] : List Int32)) = (1 : Int32) from by simp only [own_ex, if_neg hc158]] at kg
          refine pre159 tg ?_
          refine XS.ifYes X157.here hx rfl (pc0 := 164) (pc' := 209) rfl (hb hby at_164) rfl ((if0 _ _).trans (feq hc158).2) (by decide) (by decide) ?_
          show Steps _ _ _ (T157.setTop (mkF mM 209 Ls154 [])) _
          refine XS.iconst X157.here hx rfl (hb hby at_209) ?_
          show Steps _ _ _ (T157.setTop (mkF mM 210 Ls154 [(.int 1)])) _
          refine XS.goto X157.here hx rfl (pc0 := 210) (pc' := 214) rfl (hb hby at_210) (by decide) (by decide) ?_
          exact kg)
      let Ls163 : Array Slot := #[.val (.int p0), .val (.int p1), .val (.int p2), .val (.int p3), .val (.int p4), .val (.int 2), .val (.int x0), .val (.int x1), .val (.int x2), .val (.int x3), .val (.ref b96), .val (.ref b141), .val (.int (own_ex ([x0, x1] : List Int32)))]
      have f164 := (f146.keep Kq148 (allS g_b141 all0))
      obtain ⟨_, _, ⟨T165, L165, k165, n165⟩, -, X165, ⟨Lc165, hQ165, l165, y165, z165⟩, st165⟩ := Jvm.LawKit.callS X155 hx (y := (⟨"com/example/ullr/ullr/files/Glob", "isGlob", "(Ljava/lang/String;)Z"⟩ : MethodName)) hown0 (mvT hZ0 (w_28 hw)) (mvT hZ0 (w_29 hw)) (mvT hZ0 (w_30 hw)) (mvT hZ0 (w_31 hw)) (by decide) (backOf (W := 0) (rm_glL l Z a0 hw [] b141 t148 kb148 ([x0, x1]) zc fm T148.heap n0 f164 (⟨(Sq148).1, (Sq148).2.1, (Sq148).2.2.1, (Sq148).2.2.2.1, (Sq148).2.2.2.2⟩ : own_Str Z T148.heap b141 t148 kb148 [x0, x1]) S_COMPACT_STRINGS hp1 S_SIOOBE_FORMATTER hp3) hZ0 (w_31 hw) (w_30 hw) (by decide) (by decide)) (g := (mkF mM 218 Ls163 [(.ref b141)])) rfl (by rw [hml]; rfl) (argsL := [(.ref b141)]) (rest := []) (lenOf pd_20 rfl) rfl (by show 2 * 0 + _ ≤ _; exact Nat.le_of_eq rfl) (hb hby at_218) (fun _ _ => ⟨rfl, e155, (by decide : 3 + 0 ≤ _), (by decide : 8 + 0 ≤ _)⟩)
      dsimp only [Pt.U, Pt.locs, Pt.cells, Pt.slots] at X165 l165 y165 z165 st165 hQ165
      subst l165 y165 z165
      obtain ⟨rfl, rfl, Kq165⟩ := hQ165
      try rw [List.append_nil] at X165
      obtain ⟨fs, hr, hrun, hended, hR1, hR2, hR3, hR4⟩ := Stand.leaveW (s := sS) (vm₁ := sS.vm) X165 hS0 (by rw [Kq165]; exact hk152) (v := some (.int 1)) (fun h => by rw [Bd.returns] at h; cases h)
      refine ⟨_, _, pre114 _ ?_, hrun, hended, _, _, rfl, ?_, ?_, hR1, hR2, hR3, hR4.mono (by decide) (by decide)⟩
      · refine st141 _ ?_
        show Steps _ _ _ (T141.setTop (mkF mM 146 Ls112 [(.ref b141)])) _
        refine XS.dup X141.here hx rfl (hb hby at_146) rfl rfl ?_
        show Steps _ _ _ (T141.setTop (mkF mM 147 Ls112 [(.ref b141), (.ref b141)])) _
        refine XS.aload X141.here hx rfl (hb hby at_147) rfl rfl ?_
        show Steps _ _ _ (T141.setTop (mkF mM 149 Ls112 [(.ref b96), (.ref b141), (.ref b141)])) _
        refine st148.trans ?_
        show Steps _ _ _ (T148.setTop (mkF mM 152 Ls112 [(.ref b141)])) _
        refine XS.astore X148.here hx rfl (hb hby at_152) rfl rfl (l' := Ls154) rfl ?_
        show Steps _ _ _ (T148.setTop (mkF mM 154 Ls154 [])) _
        refine st155 _ ?_
        show Steps _ _ _ (T155.setTop (mkF mM 214 Ls154 [(.int (own_ex ([x0, x1] : List Int32)))])) _
        refine XS.istore X155.here hx rfl (hb hby at_214) rfl (l' := Ls163) rfl ?_
        show Steps _ _ _ (T155.setTop (mkF mM 216 Ls163 [])) _
        refine XS.aload X155.here hx rfl (hb hby at_216) rfl rfl ?_
        show Steps _ _ _ (T155.setTop (mkF mM 218 Ls163 [(.ref b141)])) _
        refine st165 _ ?_
        show Steps _ _ _ (T165.setTop (mkF mM 221 Ls163 [(.int (own_gl [x0, x1] ([x0, x1].length - 0)))])) _
        refine XS.iload X165.here hx rfl (hb hby at_221) rfl ?_
        show Steps _ _ _ (T165.setTop (mkF mM 223 Ls163 [(.int (own_ex ([x0, x1] : List Int32))), (.int (own_gl [x0, x1] ([x0, x1].length - 0)))])) _
        refine XS.icmpNo X165.here hx rfl (hb hby at_223) rfl (teq (own_gl_ex ([x0, x1] : List Int32) _ rfl (Nat.le_of_ble_eq_true rfl))).2 ?_
        show Steps _ _ _ (T165.setTop (mkF mM 226 Ls163 [])) _
        refine XS.iconst X165.here hx rfl (hb hby at_226) ?_
        show Steps _ _ _ (T165.setTop (mkF mM 227 Ls163 [(.int 1)])) _
        refine XS.goto X165.here hx rfl (pc0 := 227) (pc' := 231) rfl (hb hby at_227) (by decide) (by decide) ?_
        show Steps _ _ _ (T165.setTop (mkF mM 231 Ls163 [(.int 1)])) _
        exact retN X165 hx (t := .boolean) Bd.returns (by simp) (hb hby at_231) hr
      · show Q_law Z p0 p1 p2 p3 p4 zc fm h0 n0 _ T165.heap _ T165.vm
        rw [Kq165]
        exact ⟨rfl, N148, K153⟩
      · show CHr Z own_EL sS.vm sS.heap T165.vm T165.heap
        rw [hh, Kq165]
        exact CH149.trans (CHv.at X165 hZ0 hEL CH149.1)
  · let Ls167 : Array Slot := #[.val (.int p0), .val (.int p1), .val (.int p2), .val (.int p3), .val (.int p4), .val (.int 3), .val (.int x0), .val (.int x1), .val (.int x2), .val (.int x3), .unset, .unset, .unset]
    have hbd : ∀ c ∈ ([x0, x1, x2] : List Int32), ¬ c < 0 ∧ ¬ (65535 : Int32) < c := by
      intro c hc
      simp only [List.mem_cons, List.not_mem_nil, or_false] at hc
      rcases hc with rfl | rfl | rfl
      all_goals first | exact hxb0 | exact hxb1 | exact hxb2
    obtain ⟨T168, h168, k168, X168, e168, E168, A168, st168⟩ := newP X8 hx hZ0 (aty := .char) (w_6 hw) Kq8 (g := (mkF mM 96 Ls167 [(.int 3)])) rfl (hb hby at_96) rfl (by decide) (cap := 3) (by decide) (by decide) (by decide) (by decide)
    obtain ⟨b168, g168⟩ : ∃ z, z = h0.size := ⟨_, rfl⟩
    rw [← g168] at A168 st168
    have Sn_b168 : Safe Z own_EL sS.vm h0 b168 := Safe.new (Nat.le_of_eq g168.symm)
    have g_b168 : n0 ≤ b168 := Nat.le_trans (own_osz O0) (Nat.le_of_eq g168.symm)
    have sz_b168 : h0.size ≤ b168 := Nat.le_trans K0.1 (Nat.le_of_eq g168.symm)
    have CH169 : CHr Z own_EL sS.vm h0 sS.vm h168 := CH0.trans (CHr.ext E168 CH0.1)
    have hk170 := Nat.le_trans hk0 E168.1
    have K171 : Keep h0 h168 [] := K0.ext E168
    have V168 : Arv Z h168 b168 k168 .char (3 : Int32) [(.int 0), (.int 0), (.int 0)] (.int 0) := (Arv.new A168 (by decide)).pad (pad_rep [] (.int 0) 3)
    obtain ⟨cl172, Ar172, qk172, S172, Nn172, Hh172, G172⟩ := id V168
    have hin172 : ¬ ((0 : Int32) < 0 ∨ cl172.slots.size ≤ ((0 : Int32)).toNatClampNeg) := inb_of S172 ⟨by decide, by decide⟩
    obtain ⟨T172, h172, X172, e172, W172, st172⟩ := stC X168 hx hZ0 e168 Ar172 (j := (0 : Int32)) hin172 (g := (mkF mM 102 Ls167 [(.int x0), (.int 0), (.ref b168), (.ref b168)])) rfl rfl (hb hby at_102)
    rw [own_nc16 hxb0] at W172
    have f175 := (Safe.ext E168 CH0.1 Sn_b168)
    have sfp174 := f175
    have CH173 : CHr Z own_EL sS.vm h0 sS.vm h172 := CH169.trans (CHr.wr W172 sfp174 CH169.1)
    have hk176 := Nat.le_trans hk170 (Nat.le_of_eq W172.size.symm)
    have K177 : Keep h0 h172 [] := K171.wr W172 (Or.inr sz_b168)
    have V172 : Arv Z h172 b168 k168 .char (3 : Int32) [(.int x0), (.int 0), (.int 0)] (.int 0) := Arv.set Ar172 qk172 S172 Nn172 Hh172 G172 (own_nc16 hxb0 ▸ fits_nar_char _) W172 0 rfl (Nat.le_of_ble_eq_true rfl)
    have N172 := Fr.snoc X172 N0 g_b168
    obtain ⟨cl178, Ar178, qk178, S178, Nn178, Hh178, G178⟩ := id V172
    have hin178 : ¬ ((1 : Int32) < 0 ∨ cl178.slots.size ≤ ((1 : Int32)).toNatClampNeg) := inb_of S178 ⟨by decide, by decide⟩
    obtain ⟨T178, h178, X178, e178, W178, st178⟩ := stC X172 hx hZ0 e172 Ar178 (j := (1 : Int32)) hin178 (g := (mkF mM 107 Ls167 [(.int x1), (.int 1), (.ref b168), (.ref b168)])) rfl rfl (hb hby at_107)
    rw [own_nc16 hxb1] at W178
    have f181 := (Safe.wr W172 sfp174 CH169.1 f175)
    have sfp180 := f181
    have CH179 : CHr Z own_EL sS.vm h0 sS.vm h178 := CH173.trans (CHr.wr W178 sfp180 CH173.1)
    have hk182 := Nat.le_trans hk176 (Nat.le_of_eq W178.size.symm)
    have K183 : Keep h0 h178 [] := K177.wr W178 (Or.inr sz_b168)
    have V178 : Arv Z h178 b168 k168 .char (3 : Int32) [(.int x0), (.int x1), (.int 0)] (.int 0) := Arv.set Ar178 qk178 S178 Nn178 Hh178 G178 (own_nc16 hxb1 ▸ fits_nar_char _) W178 1 rfl (Nat.le_of_ble_eq_true rfl)
    have N178 := Fr.snoc X178 N172 g_b168
    obtain ⟨cl184, Ar184, qk184, S184, Nn184, Hh184, G184⟩ := id V178
    have hin184 : ¬ ((2 : Int32) < 0 ∨ cl184.slots.size ≤ ((2 : Int32)).toNatClampNeg) := inb_of S184 ⟨by decide, by decide⟩
    obtain ⟨T184, h184, X184, e184, W184, st184⟩ := stC X178 hx hZ0 e178 Ar184 (j := (2 : Int32)) hin184 (g := (mkF mM 112 Ls167 [(.int x2), (.int 2), (.ref b168), (.ref b168)])) rfl rfl (hb hby at_112)
    rw [own_nc16 hxb2] at W184
    have f187 := (Safe.wr W178 sfp180 CH173.1 f181)
    have sfp186 := f187
    have CH185 : CHr Z own_EL sS.vm h0 sS.vm h184 := CH179.trans (CHr.wr W184 sfp186 CH179.1)
    have hk188 := Nat.le_trans hk182 (Nat.le_of_eq W184.size.symm)
    have K189 : Keep h0 h184 [] := K183.wr W184 (Or.inr sz_b168)
    have V184 : Arv Z h184 b168 k168 .char (3 : Int32) [(.int x0), (.int x1), (.int x2)] (.int 0) := Arv.set Ar184 qk184 S184 Nn184 Hh184 G184 (own_nc16 hxb2 ▸ fits_nar_char _) W184 2 rfl (Nat.le_of_ble_eq_true rfl)
    have N184 := Fr.snoc X184 N178 g_b168
    let Ls190 : Array Slot := #[.val (.int p0), .val (.int p1), .val (.int p2), .val (.int p3), .val (.int p4), .val (.int 3), .val (.int x0), .val (.int x1), .val (.int x2), .val (.int x3), .val (.ref b168), .unset, .unset]
    have pre192 : ∀ tg, Steps pP.tables eE below (T184.setTop (mkF mM 143 Ls190 [])) tg → Steps pP.tables eE below (s₁.setTop (entryFrame mM #[(.int p0), (.int p1), (.int p2), (.int p3), (.int p4)] maxLocals)) tg := fun tg kg => pre10 tg (by
      refine XS.iload X8.here hx rfl (hb hby at_33) rfl ?_
      show Steps _ _ _ (T8.setTop (mkF mM 35 Ls167 [(.int 3)])) _
      refine XS.ifYes X8.here hx rfl (pc0 := 35) (pc' := 46) rfl (hb hby at_35) rfl ((if0 _ _).trans (feq (by decide : ¬ ((3 : Int32) = (0 : Int32)))).2) (by decide) (by decide) ?_
      show Steps _ _ _ (T8.setTop (mkF mM 46 Ls167 [])) _
      refine XS.iload X8.here hx rfl (hb hby at_46) rfl ?_
      show Steps _ _ _ (T8.setTop (mkF mM 48 Ls167 [(.int 3)])) _
      refine XS.iconst X8.here hx rfl (hb hby at_48) ?_
      show Steps _ _ _ (T8.setTop (mkF mM 49 Ls167 [(.int 1), (.int 3)])) _
      refine XS.icmpYes X8.here hx rfl (pc0 := 49) (pc' := 65) rfl (hb hby at_49) rfl (feq (by decide : ¬ ((3 : Int32) = (1 : Int32)))).2 (by decide) (by decide) ?_
      show Steps _ _ _ (T8.setTop (mkF mM 65 Ls167 [])) _
      refine XS.iload X8.here hx rfl (hb hby at_65) rfl ?_
      show Steps _ _ _ (T8.setTop (mkF mM 67 Ls167 [(.int 3)])) _
      refine XS.iconst X8.here hx rfl (hb hby at_67) ?_
      show Steps _ _ _ (T8.setTop (mkF mM 68 Ls167 [(.int 2), (.int 3)])) _
      refine XS.icmpYes X8.here hx rfl (pc0 := 68) (pc' := 89) rfl (hb hby at_68) rfl (feq (by decide : ¬ ((3 : Int32) = (2 : Int32)))).2 (by decide) (by decide) ?_
      show Steps _ _ _ (T8.setTop (mkF mM 89 Ls167 [])) _
      refine XS.iload X8.here hx rfl (hb hby at_89) rfl ?_
      show Steps _ _ _ (T8.setTop (mkF mM 91 Ls167 [(.int 3)])) _
      refine XS.iconst X8.here hx rfl (hb hby at_91) ?_
      show Steps _ _ _ (T8.setTop (mkF mM 92 Ls167 [(.int 3), (.int 3)])) _
      refine XS.icmpNo X8.here hx rfl (hb hby at_92) rfl (teq (by decide : (3 : Int32) = (3 : Int32))).2 ?_
      show Steps _ _ _ (T8.setTop (mkF mM 95 Ls167 [])) _
      refine XS.iconst X8.here hx rfl (hb hby at_95) ?_
      show Steps _ _ _ (T8.setTop (mkF mM 96 Ls167 [(.int 3)])) _
      refine st168 _ ?_
      show Steps _ _ _ (T168.setTop (mkF mM 98 Ls167 [(.ref b168)])) _
      refine XS.dup X168.here hx rfl (hb hby at_98) rfl rfl ?_
      show Steps _ _ _ (T168.setTop (mkF mM 99 Ls167 [(.ref b168), (.ref b168)])) _
      refine XS.iconst X168.here hx rfl (hb hby at_99) ?_
      show Steps _ _ _ (T168.setTop (mkF mM 100 Ls167 [(.int 0), (.ref b168), (.ref b168)])) _
      refine XS.iload X168.here hx rfl (hb hby at_100) rfl ?_
      show Steps _ _ _ (T168.setTop (mkF mM 102 Ls167 [(.int x0), (.int 0), (.ref b168), (.ref b168)])) _
      refine st172 _ ?_
      show Steps _ _ _ (T172.setTop (mkF mM 103 Ls167 [(.ref b168)])) _
      refine XS.dup X172.here hx rfl (hb hby at_103) rfl rfl ?_
      show Steps _ _ _ (T172.setTop (mkF mM 104 Ls167 [(.ref b168), (.ref b168)])) _
      refine XS.iconst X172.here hx rfl (hb hby at_104) ?_
      show Steps _ _ _ (T172.setTop (mkF mM 105 Ls167 [(.int 1), (.ref b168), (.ref b168)])) _
      refine XS.iload X172.here hx rfl (hb hby at_105) rfl ?_
      show Steps _ _ _ (T172.setTop (mkF mM 107 Ls167 [(.int x1), (.int 1), (.ref b168), (.ref b168)])) _
      refine st178 _ ?_
      show Steps _ _ _ (T178.setTop (mkF mM 108 Ls167 [(.ref b168)])) _
      refine XS.dup X178.here hx rfl (hb hby at_108) rfl rfl ?_
      show Steps _ _ _ (T178.setTop (mkF mM 109 Ls167 [(.ref b168), (.ref b168)])) _
      refine XS.iconst X178.here hx rfl (hb hby at_109) ?_
      show Steps _ _ _ (T178.setTop (mkF mM 110 Ls167 [(.int 2), (.ref b168), (.ref b168)])) _
      refine XS.iload X178.here hx rfl (hb hby at_110) rfl ?_
      show Steps _ _ _ (T178.setTop (mkF mM 112 Ls167 [(.int x2), (.int 2), (.ref b168), (.ref b168)])) _
      refine st184 _ ?_
      show Steps _ _ _ (T184.setTop (mkF mM 113 Ls167 [(.ref b168)])) _
      refine XS.astore X184.here hx rfl (hb hby at_113) rfl rfl (l' := Ls190) rfl ?_
      show Steps _ _ _ (T184.setTop (mkF mM 115 Ls190 [])) _
      refine XS.goto X184.here hx rfl (pc0 := 115) (pc' := 143) rfl (hb hby at_115) (by decide) (by decide) ?_
      exact kg)
    by_cases hfi191 : (own_fi ([x0, x1, x2] : List Int32)) < 3
    · obtain ⟨T193, h193, X193, e193, E193, A193, D193, -, st193⟩ := newO X184 hx hZ0 hown0 (w_7 hw) (w_8 hw) (w_9 hw) e184 (g := (mkF mM 143 Ls190 [])) rfl (hb hby at_143) (by decide) (by decide)
      obtain ⟨b193, g193⟩ : ∃ z, z = h184.size := ⟨_, rfl⟩
      rw [← g193] at A193 D193 st193
      have Sn_b193 : Safe Z own_EL sS.vm h184 b193 := Safe.new (Nat.le_of_eq g193.symm)
      have f194 := ((((O0.ext E168).wr W172 g_b168).wr W178 g_b168).wr W184 g_b168)
      have g_b193 : n0 ≤ b193 := Nat.le_trans (own_osz f194) (Nat.le_of_eq g193.symm)
      have sz_b193 : h0.size ≤ b193 := Nat.le_trans K189.1 (Nat.le_of_eq g193.symm)
      have CH195 : CHr Z own_EL sS.vm h0 sS.vm h193 := CH185.trans (CHr.ext E193 CH185.1)
      have hk196 := Nat.le_trans hk188 E193.1
      have K197 : Keep h0 h193 [] := K189.ext E193
      have F_b193_value : Fld Z h193 b193 "java/lang/String" "value" "[B" .null := D193 (Or.inr (w_22 hw)) (ty := (.array .byte)) (by decide)
      have F_b193_coder : Fld Z h193 b193 "java/lang/String" "coder" "B" (.int 0) := D193 (Or.inr (w_23 hw)) (ty := .byte) (by decide)
      have f198 := (V184.ext E193)
      have f199 := (f194.ext E193)
      obtain ⟨_, _, ⟨T200, L200, k200, n200⟩, -, X200, ⟨Lc200, hQ200, l200, y200, z200⟩, st200⟩ := X193.specialBack hx (y := (⟨"java/lang/String", "<init>", "([C)V"⟩ : MethodName)) rfl hown0 (mvT hZ0 (w_10 hw)) (mvT hZ0 (w_11 hw)) (mvT hZ0 (w_12 hw)) (by decide) (backOf (W := 1) (rm_in13 l Z a0 hw [] b193 b168 k168 .null (.int 0) x0 x1 x2 zc h193 n0 f199 A193 F_b193_value F_b193_coder g_b193 f198 hfi191 (hbd : ∀ c ∈ ([x0, x1, x2] : List Int32), ¬ c < 0 ∧ ¬ (65535 : Int32) < c) S__assertionsDisabled S_HI_BYTE_SHIFT S_LO_BYTE_SHIFT S_COMPACT_STRINGS hp1) hZ0 (w_12 hw) (w_9 hw) (by decide) (by decide)) (g := (mkF mM 149 Ls190 [(.ref b168), (.ref b193), (.ref b193)])) rfl (by rw [hml]; rfl) (Steps.refl _) (a := b193) (argsL := [(.ref b168)]) (rest := [(.ref b193)]) (lenOf pd_19 rfl) rfl (by show 2 * 0 + _ ≤ _; exact Nat.le_of_eq rfl) (hb hby at_149) (fun _ _ => ⟨rfl, e193, (by decide : 2 + 2 ≤ _), (by decide : 7 + 11 ≤ _)⟩)
      dsimp only [Pt.U, Pt.locs, Pt.cells, Pt.slots] at X200 l200 y200 z200 st200 hQ200
      subst l200 y200 z200
      obtain ⟨t_200, k_200, rfl, Nq200, Kq200, q200_0, q200_1, q200_2, q200_3, q200_4⟩ := hQ200
      have N200 := Fr.app N184 Nq200
      have g_t_200 : n0 ≤ t_200 := Nat.le_trans (own_osz f199) q200_3
      have sz_t_200 : h0.size ≤ t_200 := Nat.le_trans K197.1 q200_3
      have f202 := (Safe.ext E193 CH185.1 Sn_b193)
      have sfp203 := (sfS f202 sf0)
      have CH201 : CHr Z own_EL sS.vm h0 sS.vm T200.heap := CH195.trans (CHr.keep Kq200 sfp203 CH195.1)
      have hk204 := Nat.le_trans hk196 Kq200.1
      have K205 : Keep h0 T200.heap [] := K197.trans Kq200 (allS (Or.inr sz_b193) all0)
      let Ls206 : Array Slot := #[.val (.int p0), .val (.int p1), .val (.int p2), .val (.int p3), .val (.int p4), .val (.int 3), .val (.int x0), .val (.int x1), .val (.int x2), .val (.int x3), .val (.ref b168), .val (.ref b193), .unset]
      obtain ⟨T207, X207, e207, st207⟩ := own_to X200 (h := T200.heap) (g := (mkF mM 154 Ls206 [])) (g' := (mkF mM 214 Ls206 [(.int (own_ex ([x0, x1, x2] : List Int32)))])) (by
        have f208 := (f199.keep Kq200 (allS g_b193 all0))
        obtain ⟨_, _, ⟨T209, L209, k209, n209⟩, -, X209, ⟨Lc209, hQ209, l209, y209, z209⟩, st209⟩ := Jvm.LawKit.callS X200 hx (y := (⟨"com/example/ullr/ullr/files/GlobIsGlobPinLaw", "wild", "(C)Z"⟩ : MethodName)) hown0 (mvT hZ0 (w_82 hw)) (mvT hZ0 (w_83 hw)) (mvT hZ0 (w_3 hw)) (mvT hZ0 (w_84 hw)) (by decide) (backOf (W := 0) (rm_wild l Z a0 hw [] x0 T200.heap n0 f208 ) hZ0 (w_84 hw) (w_3 hw) (by decide) (by decide)) (g := (mkF mM 161 Ls206 [(.int x0)])) rfl (by rw [hml]; rfl) (argsL := [(.int x0)]) (rest := []) (lenOf pd_21 rfl) rfl (by show 2 * 0 + _ ≤ _; exact Nat.le_of_eq rfl) (hb hby at_161) (fun _ _ => ⟨rfl, rfl, (by decide : 4 + 0 ≤ _), (by decide : 18 + 0 ≤ _)⟩)
        dsimp only [Pt.U, Pt.locs, Pt.cells, Pt.slots] at X209 l209 y209 z209 st209 hQ209
        subst l209 y209 z209
        obtain ⟨rfl, rfl, Kq209⟩ := hQ209
        try rw [List.append_nil] at X209
        have pre211 : ∀ tg, Steps pP.tables eE below (T209.setTop (mkF mM 164 Ls206 [(.int (own_wild x0))])) tg → Steps pP.tables eE below (T200.setTop (mkF mM 154 Ls206 [])) tg := fun tg kg => (by
          refine XS.iload X200.here hx rfl (hb hby at_154) rfl ?_
          show Steps _ _ _ (T200.setTop (mkF mM 156 Ls206 [(.int 3)])) _
          refine XS.ifNo X200.here hx rfl (hb hby at_156) rfl ((if0 _ _).trans (tlt (by decide : (0 : Int32) < (3 : Int32))).2.2.2) ?_
          show Steps _ _ _ (T200.setTop (mkF mM 159 Ls206 [])) _
          refine XS.iload X200.here hx rfl (hb hby at_159) rfl ?_
          show Steps _ _ _ (T200.setTop (mkF mM 161 Ls206 [(.int x0)])) _
          refine st209 _ ?_
          exact kg)
        by_cases hc210 : (own_wild x0) = (0 : Int32)
        · obtain ⟨_, _, ⟨T212, L212, k212, n212⟩, -, X212, ⟨Lc212, hQ212, l212, y212, z212⟩, st212⟩ := Jvm.LawKit.callS X209 hx (y := (⟨"com/example/ullr/ullr/files/GlobIsGlobPinLaw", "wild", "(C)Z"⟩ : MethodName)) hown0 (mvT hZ0 (w_82 hw)) (mvT hZ0 (w_83 hw)) (mvT hZ0 (w_3 hw)) (mvT hZ0 (w_84 hw)) (by decide) (backOf (W := 0) (rm_wild l Z a0 hw [] x1 T200.heap n0 f208 ) hZ0 (w_84 hw) (w_3 hw) (by decide) (by decide)) (g := (mkF mM 175 Ls206 [(.int x1)])) rfl (by rw [hml]; rfl) (argsL := [(.int x1)]) (rest := []) (lenOf pd_21 rfl) rfl (by show 2 * 0 + _ ≤ _; exact Nat.le_of_eq rfl) (hb hby at_175) (fun _ _ => ⟨rfl, Kq209, (by decide : 4 + 0 ≤ _), (by decide : 18 + 0 ≤ _)⟩)
          dsimp only [Pt.U, Pt.locs, Pt.cells, Pt.slots] at X212 l212 y212 z212 st212 hQ212
          subst l212 y212 z212
          obtain ⟨rfl, rfl, Kq212⟩ := hQ212
          try rw [List.append_nil] at X212
          have pre214 : ∀ tg, Steps pP.tables eE below (T212.setTop (mkF mM 178 Ls206 [(.int (own_wild x1))])) tg → Steps pP.tables eE below (T200.setTop (mkF mM 154 Ls206 [])) tg := fun tg kg => pre211 tg (by
            refine XS.ifNo X209.here hx rfl (hb hby at_164) rfl ((if0 _ _).trans (teq hc210).2) ?_
            show Steps _ _ _ (T209.setTop (mkF mM 167 Ls206 [])) _
            refine XS.iload X209.here hx rfl (hb hby at_167) rfl ?_
            show Steps _ _ _ (T209.setTop (mkF mM 169 Ls206 [(.int 3)])) _
            refine XS.iconst X209.here hx rfl (hb hby at_169) ?_
            show Steps _ _ _ (T209.setTop (mkF mM 170 Ls206 [(.int 1), (.int 3)])) _
            refine XS.icmpNo X209.here hx rfl (hb hby at_170) rfl (tlt (by decide : (1 : Int32) < (3 : Int32))).2.2.2 ?_
            show Steps _ _ _ (T209.setTop (mkF mM 173 Ls206 [])) _
            refine XS.iload X209.here hx rfl (hb hby at_173) rfl ?_
            show Steps _ _ _ (T209.setTop (mkF mM 175 Ls206 [(.int x1)])) _
            refine st212 _ ?_
            exact kg)
          by_cases hc213 : (own_wild x1) = (0 : Int32)
          · obtain ⟨_, _, ⟨T215, L215, k215, n215⟩, -, X215, ⟨Lc215, hQ215, l215, y215, z215⟩, st215⟩ := Jvm.LawKit.callS X212 hx (y := (⟨"com/example/ullr/ullr/files/GlobIsGlobPinLaw", "wild", "(C)Z"⟩ : MethodName)) hown0 (mvT hZ0 (w_82 hw)) (mvT hZ0 (w_83 hw)) (mvT hZ0 (w_3 hw)) (mvT hZ0 (w_84 hw)) (by decide) (backOf (W := 0) (rm_wild l Z a0 hw [] x2 T200.heap n0 f208 ) hZ0 (w_84 hw) (w_3 hw) (by decide) (by decide)) (g := (mkF mM 189 Ls206 [(.int x2)])) rfl (by rw [hml]; rfl) (argsL := [(.int x2)]) (rest := []) (lenOf pd_21 rfl) rfl (by show 2 * 0 + _ ≤ _; exact Nat.le_of_eq rfl) (hb hby at_189) (fun _ _ => ⟨rfl, Kq212, (by decide : 4 + 0 ≤ _), (by decide : 18 + 0 ≤ _)⟩)
            dsimp only [Pt.U, Pt.locs, Pt.cells, Pt.slots] at X215 l215 y215 z215 st215 hQ215
            subst l215 y215 z215
            obtain ⟨rfl, rfl, Kq215⟩ := hQ215
            try rw [List.append_nil] at X215
            have pre217 : ∀ tg, Steps pP.tables eE below (T215.setTop (mkF mM 192 Ls206 [(.int (own_wild x2))])) tg → Steps pP.tables eE below (T200.setTop (mkF mM 154 Ls206 [])) tg := fun tg kg => pre214 tg (by
              refine XS.ifNo X212.here hx rfl (hb hby at_178) rfl ((if0 _ _).trans (teq hc213).2) ?_
              show Steps _ _ _ (T212.setTop (mkF mM 181 Ls206 [])) _
              refine XS.iload X212.here hx rfl (hb hby at_181) rfl ?_
              show Steps _ _ _ (T212.setTop (mkF mM 183 Ls206 [(.int 3)])) _
              refine XS.iconst X212.here hx rfl (hb hby at_183) ?_
              show Steps _ _ _ (T212.setTop (mkF mM 184 Ls206 [(.int 2), (.int 3)])) _
              refine XS.icmpNo X212.here hx rfl (hb hby at_184) rfl (tlt (by decide : (2 : Int32) < (3 : Int32))).2.2.2 ?_
              show Steps _ _ _ (T212.setTop (mkF mM 187 Ls206 [])) _
              refine XS.iload X212.here hx rfl (hb hby at_187) rfl ?_
              show Steps _ _ _ (T212.setTop (mkF mM 189 Ls206 [(.int x2)])) _
              refine st215 _ ?_
              exact kg)
            by_cases hc216 : (own_wild x2) = (0 : Int32)
            · refine ⟨T215, X215, Kq215, fun tg kg => ?_⟩
              rw [show (own_ex ([x0, x1, x2] : List Int32)) = (0 : Int32) from by simp only [own_ex, if_pos hc210, if_pos hc213, if_pos hc216]] at kg
              refine pre217 tg ?_
              refine XS.ifNo X215.here hx rfl (hb hby at_192) rfl ((if0 _ _).trans (teq hc216).2) ?_
              show Steps _ _ _ (T215.setTop (mkF mM 195 Ls206 [])) _
              refine XS.iload X215.here hx rfl (hb hby at_195) rfl ?_
              show Steps _ _ _ (T215.setTop (mkF mM 197 Ls206 [(.int 3)])) _
              refine XS.iconst X215.here hx rfl (hb hby at_197) ?_
              show Steps _ _ _ (T215.setTop (mkF mM 198 Ls206 [(.int 3), (.int 3)])) _
              refine XS.icmpYes X215.here hx rfl (pc0 := 198) (pc' := 213) rfl (hb hby at_198) rfl (flt (by decide : ¬ ((3 : Int32) < (3 : Int32)))).2.2.2 (by decide) (by decide) ?_
              show Steps _ _ _ (T215.setTop (mkF mM 213 Ls206 [])) _
              refine XS.iconst X215.here hx rfl (hb hby at_213) ?_
              exact kg
            · refine ⟨T215, X215, Kq215, fun tg kg => ?_⟩
              rw [show (own_ex ([x0, x1, x2] : List Int32)) = (1 : Int32) from by simp only [own_ex, if_pos hc210, if_pos hc213, if_neg hc216]] at kg
              refine pre217 tg ?_
              refine XS.ifYes X215.here hx rfl (pc0 := 192) (pc' := 209) rfl (hb hby at_192) rfl ((if0 _ _).trans (feq hc216).2) (by decide) (by decide) ?_
              show Steps _ _ _ (T215.setTop (mkF mM 209 Ls206 [])) _
              refine XS.iconst X215.here hx rfl (hb hby at_209) ?_
              show Steps _ _ _ (T215.setTop (mkF mM 210 Ls206 [(.int 1)])) _
              refine XS.goto X215.here hx rfl (pc0 := 210) (pc' := 214) rfl (hb hby at_210) (by decide) (by decide) ?_
              exact kg
          · refine ⟨T212, X212, Kq212, fun tg kg => ?_⟩
            rw [show (own_ex ([x0, x1, x2] : List Int32)) = (1 : Int32) from by simp only [own_ex, if_pos hc210, if_neg hc213]] at kg
            refine pre214 tg ?_
            refine XS.ifYes X212.here hx rfl (pc0 := 178) (pc' := 209) rfl (hb hby at_178) rfl ((if0 _ _).trans (feq hc213).2) (by decide) (by decide) ?_
            show Steps _ _ _ (T212.setTop (mkF mM 209 Ls206 [])) _
            refine XS.iconst X212.here hx rfl (hb hby at_209) ?_
            show Steps _ _ _ (T212.setTop (mkF mM 210 Ls206 [(.int 1)])) _
            refine XS.goto X212.here hx rfl (pc0 := 210) (pc' := 214) rfl (hb hby at_210) (by decide) (by decide) ?_
            exact kg
        · refine ⟨T209, X209, Kq209, fun tg kg => ?_⟩
          rw [show (own_ex ([x0, x1, x2] : List Int32)) = (1 : Int32) from by simp only [own_ex, if_neg hc210]] at kg
          refine pre211 tg ?_
          refine XS.ifYes X209.here hx rfl (pc0 := 164) (pc' := 209) rfl (hb hby at_164) rfl ((if0 _ _).trans (feq hc210).2) (by decide) (by decide) ?_
          show Steps _ _ _ (T209.setTop (mkF mM 209 Ls206 [])) _
          refine XS.iconst X209.here hx rfl (hb hby at_209) ?_
          show Steps _ _ _ (T209.setTop (mkF mM 210 Ls206 [(.int 1)])) _
          refine XS.goto X209.here hx rfl (pc0 := 210) (pc' := 214) rfl (hb hby at_210) (by decide) (by decide) ?_
          exact kg)
      let Ls218 : Array Slot := #[.val (.int p0), .val (.int p1), .val (.int p2), .val (.int p3), .val (.int p4), .val (.int 3), .val (.int x0), .val (.int x1), .val (.int x2), .val (.int x3), .val (.ref b168), .val (.ref b193), .val (.int (own_ex ([x0, x1, x2] : List Int32)))]
      have f219 := (f199.keep Kq200 (allS g_b193 all0))
      obtain ⟨_, _, ⟨T220, L220, k220, n220⟩, -, X220, ⟨Lc220, hQ220, l220, y220, z220⟩, st220⟩ := Jvm.LawKit.callS X207 hx (y := (⟨"com/example/ullr/ullr/files/Glob", "isGlob", "(Ljava/lang/String;)Z"⟩ : MethodName)) hown0 (mvT hZ0 (w_28 hw)) (mvT hZ0 (w_29 hw)) (mvT hZ0 (w_30 hw)) (mvT hZ0 (w_31 hw)) (by decide) (backOf (W := 0) (rm_glU l Z a0 hw [] b193 t_200 k_200 3 ([x0, x1, x2]) zc fm T200.heap n0 f219 q200_0 q200_1 q200_2 q200_4 (⟨rfl, by decide⟩ : [x0, x1, x2].length = 3 ∧ 3 ≤ 4) (hbd : ∀ c ∈ [x0, x1, x2], ¬ c < 0 ∧ ¬ (65535 : Int32) < c) S__assertionsDisabled S_HI_BYTE_SHIFT S_LO_BYTE_SHIFT S_COMPACT_STRINGS hp1 S_SIOOBE_FORMATTER hp3 (by decide : 0 < 3)) hZ0 (w_31 hw) (w_30 hw) (by decide) (by decide)) (g := (mkF mM 218 Ls218 [(.ref b193)])) rfl (by rw [hml]; rfl) (argsL := [(.ref b193)]) (rest := []) (lenOf pd_20 rfl) rfl (by show 2 * 0 + _ ≤ _; exact Nat.le_of_eq rfl) (hb hby at_218) (fun _ _ => ⟨rfl, e207, (by decide : 4 + 0 ≤ _), (by decide : 18 + 0 ≤ _)⟩)
      dsimp only [Pt.U, Pt.locs, Pt.cells, Pt.slots] at X220 l220 y220 z220 st220 hQ220
      subst l220 y220 z220
      obtain ⟨rfl, rfl, Kq220⟩ := hQ220
      try rw [List.append_nil] at X220
      obtain ⟨fs, hr, hrun, hended, hR1, hR2, hR3, hR4⟩ := Stand.leaveW (s := sS) (vm₁ := sS.vm) X220 hS0 (by rw [Kq220]; exact hk204) (v := some (.int 1)) (fun h => by rw [Bd.returns] at h; cases h)
      refine ⟨_, _, pre192 _ ?_, hrun, hended, _, _, rfl, ?_, ?_, hR1, hR2, hR3, hR4.mono (by decide) (by decide)⟩
      · refine st193 _ ?_
        show Steps _ _ _ (T193.setTop (mkF mM 146 Ls190 [(.ref b193)])) _
        refine XS.dup X193.here hx rfl (hb hby at_146) rfl rfl ?_
        show Steps _ _ _ (T193.setTop (mkF mM 147 Ls190 [(.ref b193), (.ref b193)])) _
        refine XS.aload X193.here hx rfl (hb hby at_147) rfl rfl ?_
        show Steps _ _ _ (T193.setTop (mkF mM 149 Ls190 [(.ref b168), (.ref b193), (.ref b193)])) _
        refine st200.trans ?_
        show Steps _ _ _ (T200.setTop (mkF mM 152 Ls190 [(.ref b193)])) _
        refine XS.astore X200.here hx rfl (hb hby at_152) rfl rfl (l' := Ls206) rfl ?_
        show Steps _ _ _ (T200.setTop (mkF mM 154 Ls206 [])) _
        refine st207 _ ?_
        show Steps _ _ _ (T207.setTop (mkF mM 214 Ls206 [(.int (own_ex ([x0, x1, x2] : List Int32)))])) _
        refine XS.istore X207.here hx rfl (hb hby at_214) rfl (l' := Ls218) rfl ?_
        show Steps _ _ _ (T207.setTop (mkF mM 216 Ls218 [])) _
        refine XS.aload X207.here hx rfl (hb hby at_216) rfl rfl ?_
        show Steps _ _ _ (T207.setTop (mkF mM 218 Ls218 [(.ref b193)])) _
        refine st220 _ ?_
        show Steps _ _ _ (T220.setTop (mkF mM 221 Ls218 [(.int (own_gl [x0, x1, x2] 3))])) _
        refine XS.iload X220.here hx rfl (hb hby at_221) rfl ?_
        show Steps _ _ _ (T220.setTop (mkF mM 223 Ls218 [(.int (own_ex ([x0, x1, x2] : List Int32))), (.int (own_gl [x0, x1, x2] 3))])) _
        refine XS.icmpNo X220.here hx rfl (hb hby at_223) rfl (teq (own_gl_ex ([x0, x1, x2] : List Int32) _ rfl (Nat.le_of_ble_eq_true rfl))).2 ?_
        show Steps _ _ _ (T220.setTop (mkF mM 226 Ls218 [])) _
        refine XS.iconst X220.here hx rfl (hb hby at_226) ?_
        show Steps _ _ _ (T220.setTop (mkF mM 227 Ls218 [(.int 1)])) _
        refine XS.goto X220.here hx rfl (pc0 := 227) (pc' := 231) rfl (hb hby at_227) (by decide) (by decide) ?_
        show Steps _ _ _ (T220.setTop (mkF mM 231 Ls218 [(.int 1)])) _
        exact retN X220 hx (t := .boolean) Bd.returns (by simp) (hb hby at_231) hr
      · show Q_law Z p0 p1 p2 p3 p4 zc fm h0 n0 _ T220.heap _ T220.vm
        rw [Kq220]
        exact ⟨rfl, N200, K205⟩
      · show CHr Z own_EL sS.vm sS.heap T220.vm T220.heap
        rw [hh, Kq220]
        exact CH201.trans (CHv.at X220 hZ0 hEL CH201.1)
    · have hcs : ∀ c ∈ ([x0, x1, x2] : List Int32), ¬ c < 0 ∧ ¬ (255 : Int32) < c := fun c hc => ⟨(hbd c hc).1, own_fi_all _ hfi191 c hc⟩
      obtain ⟨T222, h222, X222, e222, E222, A222, D222, -, st222⟩ := newO X184 hx hZ0 hown0 (w_7 hw) (w_8 hw) (w_9 hw) e184 (g := (mkF mM 143 Ls190 [])) rfl (hb hby at_143) (by decide) (by decide)
      obtain ⟨b222, g222⟩ : ∃ z, z = h184.size := ⟨_, rfl⟩
      rw [← g222] at A222 D222 st222
      have Sn_b222 : Safe Z own_EL sS.vm h184 b222 := Safe.new (Nat.le_of_eq g222.symm)
      have f223 := ((((O0.ext E168).wr W172 g_b168).wr W178 g_b168).wr W184 g_b168)
      have g_b222 : n0 ≤ b222 := Nat.le_trans (own_osz f223) (Nat.le_of_eq g222.symm)
      have sz_b222 : h0.size ≤ b222 := Nat.le_trans K189.1 (Nat.le_of_eq g222.symm)
      have CH224 : CHr Z own_EL sS.vm h0 sS.vm h222 := CH185.trans (CHr.ext E222 CH185.1)
      have hk225 := Nat.le_trans hk188 E222.1
      have K226 : Keep h0 h222 [] := K189.ext E222
      have F_b222_value : Fld Z h222 b222 "java/lang/String" "value" "[B" .null := D222 (Or.inr (w_22 hw)) (ty := (.array .byte)) (by decide)
      have F_b222_coder : Fld Z h222 b222 "java/lang/String" "coder" "B" (.int 0) := D222 (Or.inr (w_23 hw)) (ty := .byte) (by decide)
      have f227 := (f223.ext E222)
      have f228 := (V184.ext E222)
      obtain ⟨_, _, ⟨T229, L229, k229, n229⟩, -, X229, ⟨Lc229, hQ229, l229, y229, z229⟩, st229⟩ := X222.specialBack hx (y := (⟨"java/lang/String", "<init>", "([C)V"⟩ : MethodName)) rfl hown0 (mvT hZ0 (w_10 hw)) (mvT hZ0 (w_11 hw)) (mvT hZ0 (w_12 hw)) (by decide) (own_new (W := 1) hZ0 hw (cs := [x0, x1, x2]) (n := 3) g_b222 (own_osz f227) A222 F_b222_value F_b222_coder f228 (Sta.ext (f227).2 S_COMPACT_STRINGS) hp1 rfl rfl (by decide) (by decide) hcs (by decide) (by decide)) (g := (mkF mM 149 Ls190 [(.ref b168), (.ref b222), (.ref b222)])) rfl (by rw [hml]; rfl) (Steps.refl _) (a := b222) (argsL := [(.ref b168)]) (rest := [(.ref b222)]) (lenOf pd_19 rfl) rfl (by show 2 * 0 + _ ≤ _; exact Nat.le_of_eq rfl) (hb hby at_149) (fun _ _ => ⟨rfl, e222, (by decide : 2 + 1 ≤ _), (by decide : 7 + 3 ≤ _)⟩)
      dsimp only [Pt.U, Pt.locs, Pt.cells, Pt.slots] at X229 l229 y229 z229 st229 hQ229
      subst l229 y229 z229
      obtain ⟨rfl, Nq229, Kq229, t229, kb229, hs229, Sq229⟩ := hQ229
      have N229 := Fr.app N184 Nq229
      have g_t229 : n0 ≤ t229 := Nat.le_trans (own_osz f227) hs229
      have sz_t229 : h0.size ≤ t229 := Nat.le_trans K226.1 hs229
      have f231 := (Safe.ext E222 CH185.1 Sn_b222)
      have sfp232 := (sfS f231 sf0)
      have CH230 : CHr Z own_EL sS.vm h0 sS.vm T229.heap := CH224.trans (CHr.keep Kq229 sfp232 CH224.1)
      have hk233 := Nat.le_trans hk225 Kq229.1
      have K234 : Keep h0 T229.heap [] := K226.trans Kq229 (allS (Or.inr sz_b222) all0)
      let Ls235 : Array Slot := #[.val (.int p0), .val (.int p1), .val (.int p2), .val (.int p3), .val (.int p4), .val (.int 3), .val (.int x0), .val (.int x1), .val (.int x2), .val (.int x3), .val (.ref b168), .val (.ref b222), .unset]
      obtain ⟨T236, X236, e236, st236⟩ := own_to X229 (h := T229.heap) (g := (mkF mM 154 Ls235 [])) (g' := (mkF mM 214 Ls235 [(.int (own_ex ([x0, x1, x2] : List Int32)))])) (by
        have f237 := (f227.keep Kq229 (allS g_b222 all0))
        obtain ⟨_, _, ⟨T238, L238, k238, n238⟩, -, X238, ⟨Lc238, hQ238, l238, y238, z238⟩, st238⟩ := Jvm.LawKit.callS X229 hx (y := (⟨"com/example/ullr/ullr/files/GlobIsGlobPinLaw", "wild", "(C)Z"⟩ : MethodName)) hown0 (mvT hZ0 (w_82 hw)) (mvT hZ0 (w_83 hw)) (mvT hZ0 (w_3 hw)) (mvT hZ0 (w_84 hw)) (by decide) (backOf (W := 0) (rm_wild l Z a0 hw [] x0 T229.heap n0 f237 ) hZ0 (w_84 hw) (w_3 hw) (by decide) (by decide)) (g := (mkF mM 161 Ls235 [(.int x0)])) rfl (by rw [hml]; rfl) (argsL := [(.int x0)]) (rest := []) (lenOf pd_21 rfl) rfl (by show 2 * 0 + _ ≤ _; exact Nat.le_of_eq rfl) (hb hby at_161) (fun _ _ => ⟨rfl, rfl, (by decide : 3 + 0 ≤ _), (by decide : 10 + 0 ≤ _)⟩)
        dsimp only [Pt.U, Pt.locs, Pt.cells, Pt.slots] at X238 l238 y238 z238 st238 hQ238
        subst l238 y238 z238
        obtain ⟨rfl, rfl, Kq238⟩ := hQ238
        try rw [List.append_nil] at X238
        have pre240 : ∀ tg, Steps pP.tables eE below (T238.setTop (mkF mM 164 Ls235 [(.int (own_wild x0))])) tg → Steps pP.tables eE below (T229.setTop (mkF mM 154 Ls235 [])) tg := fun tg kg => (by
          refine XS.iload X229.here hx rfl (hb hby at_154) rfl ?_
          show Steps _ _ _ (T229.setTop (mkF mM 156 Ls235 [(.int 3)])) _
          refine XS.ifNo X229.here hx rfl (hb hby at_156) rfl ((if0 _ _).trans (tlt (by decide : (0 : Int32) < (3 : Int32))).2.2.2) ?_
          show Steps _ _ _ (T229.setTop (mkF mM 159 Ls235 [])) _
          refine XS.iload X229.here hx rfl (hb hby at_159) rfl ?_
          show Steps _ _ _ (T229.setTop (mkF mM 161 Ls235 [(.int x0)])) _
          refine st238 _ ?_
          exact kg)
        by_cases hc239 : (own_wild x0) = (0 : Int32)
        · obtain ⟨_, _, ⟨T241, L241, k241, n241⟩, -, X241, ⟨Lc241, hQ241, l241, y241, z241⟩, st241⟩ := Jvm.LawKit.callS X238 hx (y := (⟨"com/example/ullr/ullr/files/GlobIsGlobPinLaw", "wild", "(C)Z"⟩ : MethodName)) hown0 (mvT hZ0 (w_82 hw)) (mvT hZ0 (w_83 hw)) (mvT hZ0 (w_3 hw)) (mvT hZ0 (w_84 hw)) (by decide) (backOf (W := 0) (rm_wild l Z a0 hw [] x1 T229.heap n0 f237 ) hZ0 (w_84 hw) (w_3 hw) (by decide) (by decide)) (g := (mkF mM 175 Ls235 [(.int x1)])) rfl (by rw [hml]; rfl) (argsL := [(.int x1)]) (rest := []) (lenOf pd_21 rfl) rfl (by show 2 * 0 + _ ≤ _; exact Nat.le_of_eq rfl) (hb hby at_175) (fun _ _ => ⟨rfl, Kq238, (by decide : 3 + 0 ≤ _), (by decide : 10 + 0 ≤ _)⟩)
          dsimp only [Pt.U, Pt.locs, Pt.cells, Pt.slots] at X241 l241 y241 z241 st241 hQ241
          subst l241 y241 z241
          obtain ⟨rfl, rfl, Kq241⟩ := hQ241
          try rw [List.append_nil] at X241
          have pre243 : ∀ tg, Steps pP.tables eE below (T241.setTop (mkF mM 178 Ls235 [(.int (own_wild x1))])) tg → Steps pP.tables eE below (T229.setTop (mkF mM 154 Ls235 [])) tg := fun tg kg => pre240 tg (by
            refine XS.ifNo X238.here hx rfl (hb hby at_164) rfl ((if0 _ _).trans (teq hc239).2) ?_
            show Steps _ _ _ (T238.setTop (mkF mM 167 Ls235 [])) _
            refine XS.iload X238.here hx rfl (hb hby at_167) rfl ?_
            show Steps _ _ _ (T238.setTop (mkF mM 169 Ls235 [(.int 3)])) _
            refine XS.iconst X238.here hx rfl (hb hby at_169) ?_
            show Steps _ _ _ (T238.setTop (mkF mM 170 Ls235 [(.int 1), (.int 3)])) _
            refine XS.icmpNo X238.here hx rfl (hb hby at_170) rfl (tlt (by decide : (1 : Int32) < (3 : Int32))).2.2.2 ?_
            show Steps _ _ _ (T238.setTop (mkF mM 173 Ls235 [])) _
            refine XS.iload X238.here hx rfl (hb hby at_173) rfl ?_
            show Steps _ _ _ (T238.setTop (mkF mM 175 Ls235 [(.int x1)])) _
            refine st241 _ ?_
            exact kg)
          by_cases hc242 : (own_wild x1) = (0 : Int32)
          · obtain ⟨_, _, ⟨T244, L244, k244, n244⟩, -, X244, ⟨Lc244, hQ244, l244, y244, z244⟩, st244⟩ := Jvm.LawKit.callS X241 hx (y := (⟨"com/example/ullr/ullr/files/GlobIsGlobPinLaw", "wild", "(C)Z"⟩ : MethodName)) hown0 (mvT hZ0 (w_82 hw)) (mvT hZ0 (w_83 hw)) (mvT hZ0 (w_3 hw)) (mvT hZ0 (w_84 hw)) (by decide) (backOf (W := 0) (rm_wild l Z a0 hw [] x2 T229.heap n0 f237 ) hZ0 (w_84 hw) (w_3 hw) (by decide) (by decide)) (g := (mkF mM 189 Ls235 [(.int x2)])) rfl (by rw [hml]; rfl) (argsL := [(.int x2)]) (rest := []) (lenOf pd_21 rfl) rfl (by show 2 * 0 + _ ≤ _; exact Nat.le_of_eq rfl) (hb hby at_189) (fun _ _ => ⟨rfl, Kq241, (by decide : 3 + 0 ≤ _), (by decide : 10 + 0 ≤ _)⟩)
            dsimp only [Pt.U, Pt.locs, Pt.cells, Pt.slots] at X244 l244 y244 z244 st244 hQ244
            subst l244 y244 z244
            obtain ⟨rfl, rfl, Kq244⟩ := hQ244
            try rw [List.append_nil] at X244
            have pre246 : ∀ tg, Steps pP.tables eE below (T244.setTop (mkF mM 192 Ls235 [(.int (own_wild x2))])) tg → Steps pP.tables eE below (T229.setTop (mkF mM 154 Ls235 [])) tg := fun tg kg => pre243 tg (by
              refine XS.ifNo X241.here hx rfl (hb hby at_178) rfl ((if0 _ _).trans (teq hc242).2) ?_
              show Steps _ _ _ (T241.setTop (mkF mM 181 Ls235 [])) _
              refine XS.iload X241.here hx rfl (hb hby at_181) rfl ?_
              show Steps _ _ _ (T241.setTop (mkF mM 183 Ls235 [(.int 3)])) _
              refine XS.iconst X241.here hx rfl (hb hby at_183) ?_
              show Steps _ _ _ (T241.setTop (mkF mM 184 Ls235 [(.int 2), (.int 3)])) _
              refine XS.icmpNo X241.here hx rfl (hb hby at_184) rfl (tlt (by decide : (2 : Int32) < (3 : Int32))).2.2.2 ?_
              show Steps _ _ _ (T241.setTop (mkF mM 187 Ls235 [])) _
              refine XS.iload X241.here hx rfl (hb hby at_187) rfl ?_
              show Steps _ _ _ (T241.setTop (mkF mM 189 Ls235 [(.int x2)])) _
              refine st244 _ ?_
              exact kg)
            by_cases hc245 : (own_wild x2) = (0 : Int32)
            · refine ⟨T244, X244, Kq244, fun tg kg => ?_⟩
              rw [show (own_ex ([x0, x1, x2] : List Int32)) = (0 : Int32) from by simp only [own_ex, if_pos hc239, if_pos hc242, if_pos hc245]] at kg
              refine pre246 tg ?_
              refine XS.ifNo X244.here hx rfl (hb hby at_192) rfl ((if0 _ _).trans (teq hc245).2) ?_
              show Steps _ _ _ (T244.setTop (mkF mM 195 Ls235 [])) _
              refine XS.iload X244.here hx rfl (hb hby at_195) rfl ?_
              show Steps _ _ _ (T244.setTop (mkF mM 197 Ls235 [(.int 3)])) _
              refine XS.iconst X244.here hx rfl (hb hby at_197) ?_
              show Steps _ _ _ (T244.setTop (mkF mM 198 Ls235 [(.int 3), (.int 3)])) _
              refine XS.icmpYes X244.here hx rfl (pc0 := 198) (pc' := 213) rfl (hb hby at_198) rfl (flt (by decide : ¬ ((3 : Int32) < (3 : Int32)))).2.2.2 (by decide) (by decide) ?_
              show Steps _ _ _ (T244.setTop (mkF mM 213 Ls235 [])) _
              refine XS.iconst X244.here hx rfl (hb hby at_213) ?_
              exact kg
            · refine ⟨T244, X244, Kq244, fun tg kg => ?_⟩
              rw [show (own_ex ([x0, x1, x2] : List Int32)) = (1 : Int32) from by simp only [own_ex, if_pos hc239, if_pos hc242, if_neg hc245]] at kg
              refine pre246 tg ?_
              refine XS.ifYes X244.here hx rfl (pc0 := 192) (pc' := 209) rfl (hb hby at_192) rfl ((if0 _ _).trans (feq hc245).2) (by decide) (by decide) ?_
              show Steps _ _ _ (T244.setTop (mkF mM 209 Ls235 [])) _
              refine XS.iconst X244.here hx rfl (hb hby at_209) ?_
              show Steps _ _ _ (T244.setTop (mkF mM 210 Ls235 [(.int 1)])) _
              refine XS.goto X244.here hx rfl (pc0 := 210) (pc' := 214) rfl (hb hby at_210) (by decide) (by decide) ?_
              exact kg
          · refine ⟨T241, X241, Kq241, fun tg kg => ?_⟩
            rw [show (own_ex ([x0, x1, x2] : List Int32)) = (1 : Int32) from by simp only [own_ex, if_pos hc239, if_neg hc242]] at kg
            refine pre243 tg ?_
            refine XS.ifYes X241.here hx rfl (pc0 := 178) (pc' := 209) rfl (hb hby at_178) rfl ((if0 _ _).trans (feq hc242).2) (by decide) (by decide) ?_
            show Steps _ _ _ (T241.setTop (mkF mM 209 Ls235 [])) _
            refine XS.iconst X241.here hx rfl (hb hby at_209) ?_
            show Steps _ _ _ (T241.setTop (mkF mM 210 Ls235 [(.int 1)])) _
            refine XS.goto X241.here hx rfl (pc0 := 210) (pc' := 214) rfl (hb hby at_210) (by decide) (by decide) ?_
            exact kg
        · refine ⟨T238, X238, Kq238, fun tg kg => ?_⟩
          rw [show (own_ex ([x0, x1, x2] : List Int32)) = (1 : Int32) from by simp only [own_ex, if_neg hc239]] at kg
          refine pre240 tg ?_
          refine XS.ifYes X238.here hx rfl (pc0 := 164) (pc' := 209) rfl (hb hby at_164) rfl ((if0 _ _).trans (feq hc239).2) (by decide) (by decide) ?_
          show Steps _ _ _ (T238.setTop (mkF mM 209 Ls235 [])) _
          refine XS.iconst X238.here hx rfl (hb hby at_209) ?_
          show Steps _ _ _ (T238.setTop (mkF mM 210 Ls235 [(.int 1)])) _
          refine XS.goto X238.here hx rfl (pc0 := 210) (pc' := 214) rfl (hb hby at_210) (by decide) (by decide) ?_
          exact kg)
      let Ls247 : Array Slot := #[.val (.int p0), .val (.int p1), .val (.int p2), .val (.int p3), .val (.int p4), .val (.int 3), .val (.int x0), .val (.int x1), .val (.int x2), .val (.int x3), .val (.ref b168), .val (.ref b222), .val (.int (own_ex ([x0, x1, x2] : List Int32)))]
      have f248 := (f227.keep Kq229 (allS g_b222 all0))
      obtain ⟨_, _, ⟨T249, L249, k249, n249⟩, -, X249, ⟨Lc249, hQ249, l249, y249, z249⟩, st249⟩ := Jvm.LawKit.callS X236 hx (y := (⟨"com/example/ullr/ullr/files/Glob", "isGlob", "(Ljava/lang/String;)Z"⟩ : MethodName)) hown0 (mvT hZ0 (w_28 hw)) (mvT hZ0 (w_29 hw)) (mvT hZ0 (w_30 hw)) (mvT hZ0 (w_31 hw)) (by decide) (backOf (W := 0) (rm_glL l Z a0 hw [] b222 t229 kb229 ([x0, x1, x2]) zc fm T229.heap n0 f248 (⟨(Sq229).1, (Sq229).2.1, (Sq229).2.2.1, (Sq229).2.2.2.1, (Sq229).2.2.2.2⟩ : own_Str Z T229.heap b222 t229 kb229 [x0, x1, x2]) S_COMPACT_STRINGS hp1 S_SIOOBE_FORMATTER hp3) hZ0 (w_31 hw) (w_30 hw) (by decide) (by decide)) (g := (mkF mM 218 Ls247 [(.ref b222)])) rfl (by rw [hml]; rfl) (argsL := [(.ref b222)]) (rest := []) (lenOf pd_20 rfl) rfl (by show 2 * 0 + _ ≤ _; exact Nat.le_of_eq rfl) (hb hby at_218) (fun _ _ => ⟨rfl, e236, (by decide : 3 + 0 ≤ _), (by decide : 10 + 0 ≤ _)⟩)
      dsimp only [Pt.U, Pt.locs, Pt.cells, Pt.slots] at X249 l249 y249 z249 st249 hQ249
      subst l249 y249 z249
      obtain ⟨rfl, rfl, Kq249⟩ := hQ249
      try rw [List.append_nil] at X249
      obtain ⟨fs, hr, hrun, hended, hR1, hR2, hR3, hR4⟩ := Stand.leaveW (s := sS) (vm₁ := sS.vm) X249 hS0 (by rw [Kq249]; exact hk233) (v := some (.int 1)) (fun h => by rw [Bd.returns] at h; cases h)
      refine ⟨_, _, pre192 _ ?_, hrun, hended, _, _, rfl, ?_, ?_, hR1, hR2, hR3, hR4.mono (by decide) (by decide)⟩
      · refine st222 _ ?_
        show Steps _ _ _ (T222.setTop (mkF mM 146 Ls190 [(.ref b222)])) _
        refine XS.dup X222.here hx rfl (hb hby at_146) rfl rfl ?_
        show Steps _ _ _ (T222.setTop (mkF mM 147 Ls190 [(.ref b222), (.ref b222)])) _
        refine XS.aload X222.here hx rfl (hb hby at_147) rfl rfl ?_
        show Steps _ _ _ (T222.setTop (mkF mM 149 Ls190 [(.ref b168), (.ref b222), (.ref b222)])) _
        refine st229.trans ?_
        show Steps _ _ _ (T229.setTop (mkF mM 152 Ls190 [(.ref b222)])) _
        refine XS.astore X229.here hx rfl (hb hby at_152) rfl rfl (l' := Ls235) rfl ?_
        show Steps _ _ _ (T229.setTop (mkF mM 154 Ls235 [])) _
        refine st236 _ ?_
        show Steps _ _ _ (T236.setTop (mkF mM 214 Ls235 [(.int (own_ex ([x0, x1, x2] : List Int32)))])) _
        refine XS.istore X236.here hx rfl (hb hby at_214) rfl (l' := Ls247) rfl ?_
        show Steps _ _ _ (T236.setTop (mkF mM 216 Ls247 [])) _
        refine XS.aload X236.here hx rfl (hb hby at_216) rfl rfl ?_
        show Steps _ _ _ (T236.setTop (mkF mM 218 Ls247 [(.ref b222)])) _
        refine st249 _ ?_
        show Steps _ _ _ (T249.setTop (mkF mM 221 Ls247 [(.int (own_gl [x0, x1, x2] ([x0, x1, x2].length - 0)))])) _
        refine XS.iload X249.here hx rfl (hb hby at_221) rfl ?_
        show Steps _ _ _ (T249.setTop (mkF mM 223 Ls247 [(.int (own_ex ([x0, x1, x2] : List Int32))), (.int (own_gl [x0, x1, x2] ([x0, x1, x2].length - 0)))])) _
        refine XS.icmpNo X249.here hx rfl (hb hby at_223) rfl (teq (own_gl_ex ([x0, x1, x2] : List Int32) _ rfl (Nat.le_of_ble_eq_true rfl))).2 ?_
        show Steps _ _ _ (T249.setTop (mkF mM 226 Ls247 [])) _
        refine XS.iconst X249.here hx rfl (hb hby at_226) ?_
        show Steps _ _ _ (T249.setTop (mkF mM 227 Ls247 [(.int 1)])) _
        refine XS.goto X249.here hx rfl (pc0 := 227) (pc' := 231) rfl (hb hby at_227) (by decide) (by decide) ?_
        show Steps _ _ _ (T249.setTop (mkF mM 231 Ls247 [(.int 1)])) _
        exact retN X249 hx (t := .boolean) Bd.returns (by simp) (hb hby at_231) hr
      · show Q_law Z p0 p1 p2 p3 p4 zc fm h0 n0 _ T249.heap _ T249.vm
        rw [Kq249]
        exact ⟨rfl, N229, K234⟩
      · show CHr Z own_EL sS.vm sS.heap T249.vm T249.heap
        rw [hh, Kq249]
        exact CH230.trans (CHv.at X249 hZ0 hEL CH230.1)
  · let Ls251 : Array Slot := #[.val (.int p0), .val (.int p1), .val (.int p2), .val (.int p3), .val (.int p4), .val (.int 4), .val (.int x0), .val (.int x1), .val (.int x2), .val (.int x3), .unset, .unset, .unset]
    have hbd : ∀ c ∈ ([x0, x1, x2, x3] : List Int32), ¬ c < 0 ∧ ¬ (65535 : Int32) < c := by
      intro c hc
      simp only [List.mem_cons, List.not_mem_nil, or_false] at hc
      rcases hc with rfl | rfl | rfl | rfl
      all_goals first | exact hxb0 | exact hxb1 | exact hxb2 | exact hxb3
    obtain ⟨T252, h252, k252, X252, e252, E252, A252, st252⟩ := newP X8 hx hZ0 (aty := .char) (w_6 hw) Kq8 (g := (mkF mM 119 Ls251 [(.int 4)])) rfl (hb hby at_119) rfl (by decide) (cap := 4) (by decide) (by decide) (by decide) (by decide)
    obtain ⟨b252, g252⟩ : ∃ z, z = h0.size := ⟨_, rfl⟩
    rw [← g252] at A252 st252
    have Sn_b252 : Safe Z own_EL sS.vm h0 b252 := Safe.new (Nat.le_of_eq g252.symm)
    have g_b252 : n0 ≤ b252 := Nat.le_trans (own_osz O0) (Nat.le_of_eq g252.symm)
    have sz_b252 : h0.size ≤ b252 := Nat.le_trans K0.1 (Nat.le_of_eq g252.symm)
    have CH253 : CHr Z own_EL sS.vm h0 sS.vm h252 := CH0.trans (CHr.ext E252 CH0.1)
    have hk254 := Nat.le_trans hk0 E252.1
    have K255 : Keep h0 h252 [] := K0.ext E252
    have V252 : Arv Z h252 b252 k252 .char (4 : Int32) [(.int 0), (.int 0), (.int 0), (.int 0)] (.int 0) := (Arv.new A252 (by decide)).pad (pad_rep [] (.int 0) 4)
    obtain ⟨cl256, Ar256, qk256, S256, Nn256, Hh256, G256⟩ := id V252
    have hin256 : ¬ ((0 : Int32) < 0 ∨ cl256.slots.size ≤ ((0 : Int32)).toNatClampNeg) := inb_of S256 ⟨by decide, by decide⟩
    obtain ⟨T256, h256, X256, e256, W256, st256⟩ := stC X252 hx hZ0 e252 Ar256 (j := (0 : Int32)) hin256 (g := (mkF mM 125 Ls251 [(.int x0), (.int 0), (.ref b252), (.ref b252)])) rfl rfl (hb hby at_125)
    rw [own_nc16 hxb0] at W256
    have f259 := (Safe.ext E252 CH0.1 Sn_b252)
    have sfp258 := f259
    have CH257 : CHr Z own_EL sS.vm h0 sS.vm h256 := CH253.trans (CHr.wr W256 sfp258 CH253.1)
    have hk260 := Nat.le_trans hk254 (Nat.le_of_eq W256.size.symm)
    have K261 : Keep h0 h256 [] := K255.wr W256 (Or.inr sz_b252)
    have V256 : Arv Z h256 b252 k252 .char (4 : Int32) [(.int x0), (.int 0), (.int 0), (.int 0)] (.int 0) := Arv.set Ar256 qk256 S256 Nn256 Hh256 G256 (own_nc16 hxb0 ▸ fits_nar_char _) W256 0 rfl (Nat.le_of_ble_eq_true rfl)
    have N256 := Fr.snoc X256 N0 g_b252
    obtain ⟨cl262, Ar262, qk262, S262, Nn262, Hh262, G262⟩ := id V256
    have hin262 : ¬ ((1 : Int32) < 0 ∨ cl262.slots.size ≤ ((1 : Int32)).toNatClampNeg) := inb_of S262 ⟨by decide, by decide⟩
    obtain ⟨T262, h262, X262, e262, W262, st262⟩ := stC X256 hx hZ0 e256 Ar262 (j := (1 : Int32)) hin262 (g := (mkF mM 130 Ls251 [(.int x1), (.int 1), (.ref b252), (.ref b252)])) rfl rfl (hb hby at_130)
    rw [own_nc16 hxb1] at W262
    have f265 := (Safe.wr W256 sfp258 CH253.1 f259)
    have sfp264 := f265
    have CH263 : CHr Z own_EL sS.vm h0 sS.vm h262 := CH257.trans (CHr.wr W262 sfp264 CH257.1)
    have hk266 := Nat.le_trans hk260 (Nat.le_of_eq W262.size.symm)
    have K267 : Keep h0 h262 [] := K261.wr W262 (Or.inr sz_b252)
    have V262 : Arv Z h262 b252 k252 .char (4 : Int32) [(.int x0), (.int x1), (.int 0), (.int 0)] (.int 0) := Arv.set Ar262 qk262 S262 Nn262 Hh262 G262 (own_nc16 hxb1 ▸ fits_nar_char _) W262 1 rfl (Nat.le_of_ble_eq_true rfl)
    have N262 := Fr.snoc X262 N256 g_b252
    obtain ⟨cl268, Ar268, qk268, S268, Nn268, Hh268, G268⟩ := id V262
    have hin268 : ¬ ((2 : Int32) < 0 ∨ cl268.slots.size ≤ ((2 : Int32)).toNatClampNeg) := inb_of S268 ⟨by decide, by decide⟩
    obtain ⟨T268, h268, X268, e268, W268, st268⟩ := stC X262 hx hZ0 e262 Ar268 (j := (2 : Int32)) hin268 (g := (mkF mM 135 Ls251 [(.int x2), (.int 2), (.ref b252), (.ref b252)])) rfl rfl (hb hby at_135)
    rw [own_nc16 hxb2] at W268
    have f271 := (Safe.wr W262 sfp264 CH257.1 f265)
    have sfp270 := f271
    have CH269 : CHr Z own_EL sS.vm h0 sS.vm h268 := CH263.trans (CHr.wr W268 sfp270 CH263.1)
    have hk272 := Nat.le_trans hk266 (Nat.le_of_eq W268.size.symm)
    have K273 : Keep h0 h268 [] := K267.wr W268 (Or.inr sz_b252)
    have V268 : Arv Z h268 b252 k252 .char (4 : Int32) [(.int x0), (.int x1), (.int x2), (.int 0)] (.int 0) := Arv.set Ar268 qk268 S268 Nn268 Hh268 G268 (own_nc16 hxb2 ▸ fits_nar_char _) W268 2 rfl (Nat.le_of_ble_eq_true rfl)
    have N268 := Fr.snoc X268 N262 g_b252
    obtain ⟨cl274, Ar274, qk274, S274, Nn274, Hh274, G274⟩ := id V268
    have hin274 : ¬ ((3 : Int32) < 0 ∨ cl274.slots.size ≤ ((3 : Int32)).toNatClampNeg) := inb_of S274 ⟨by decide, by decide⟩
    obtain ⟨T274, h274, X274, e274, W274, st274⟩ := stC X268 hx hZ0 e268 Ar274 (j := (3 : Int32)) hin274 (g := (mkF mM 140 Ls251 [(.int x3), (.int 3), (.ref b252), (.ref b252)])) rfl rfl (hb hby at_140)
    rw [own_nc16 hxb3] at W274
    have f277 := (Safe.wr W268 sfp270 CH263.1 f271)
    have sfp276 := f277
    have CH275 : CHr Z own_EL sS.vm h0 sS.vm h274 := CH269.trans (CHr.wr W274 sfp276 CH269.1)
    have hk278 := Nat.le_trans hk272 (Nat.le_of_eq W274.size.symm)
    have K279 : Keep h0 h274 [] := K273.wr W274 (Or.inr sz_b252)
    have V274 : Arv Z h274 b252 k252 .char (4 : Int32) [(.int x0), (.int x1), (.int x2), (.int x3)] (.int 0) := Arv.set Ar274 qk274 S274 Nn274 Hh274 G274 (own_nc16 hxb3 ▸ fits_nar_char _) W274 3 rfl (Nat.le_of_ble_eq_true rfl)
    have N274 := Fr.snoc X274 N268 g_b252
    let Ls280 : Array Slot := #[.val (.int p0), .val (.int p1), .val (.int p2), .val (.int p3), .val (.int p4), .val (.int 4), .val (.int x0), .val (.int x1), .val (.int x2), .val (.int x3), .val (.ref b252), .unset, .unset]
    have pre282 : ∀ tg, Steps pP.tables eE below (T274.setTop (mkF mM 143 Ls280 [])) tg → Steps pP.tables eE below (s₁.setTop (entryFrame mM #[(.int p0), (.int p1), (.int p2), (.int p3), (.int p4)] maxLocals)) tg := fun tg kg => pre10 tg (by
      refine XS.iload X8.here hx rfl (hb hby at_33) rfl ?_
      show Steps _ _ _ (T8.setTop (mkF mM 35 Ls251 [(.int 4)])) _
      refine XS.ifYes X8.here hx rfl (pc0 := 35) (pc' := 46) rfl (hb hby at_35) rfl ((if0 _ _).trans (feq (by decide : ¬ ((4 : Int32) = (0 : Int32)))).2) (by decide) (by decide) ?_
      show Steps _ _ _ (T8.setTop (mkF mM 46 Ls251 [])) _
      refine XS.iload X8.here hx rfl (hb hby at_46) rfl ?_
      show Steps _ _ _ (T8.setTop (mkF mM 48 Ls251 [(.int 4)])) _
      refine XS.iconst X8.here hx rfl (hb hby at_48) ?_
      show Steps _ _ _ (T8.setTop (mkF mM 49 Ls251 [(.int 1), (.int 4)])) _
      refine XS.icmpYes X8.here hx rfl (pc0 := 49) (pc' := 65) rfl (hb hby at_49) rfl (feq (by decide : ¬ ((4 : Int32) = (1 : Int32)))).2 (by decide) (by decide) ?_
      show Steps _ _ _ (T8.setTop (mkF mM 65 Ls251 [])) _
      refine XS.iload X8.here hx rfl (hb hby at_65) rfl ?_
      show Steps _ _ _ (T8.setTop (mkF mM 67 Ls251 [(.int 4)])) _
      refine XS.iconst X8.here hx rfl (hb hby at_67) ?_
      show Steps _ _ _ (T8.setTop (mkF mM 68 Ls251 [(.int 2), (.int 4)])) _
      refine XS.icmpYes X8.here hx rfl (pc0 := 68) (pc' := 89) rfl (hb hby at_68) rfl (feq (by decide : ¬ ((4 : Int32) = (2 : Int32)))).2 (by decide) (by decide) ?_
      show Steps _ _ _ (T8.setTop (mkF mM 89 Ls251 [])) _
      refine XS.iload X8.here hx rfl (hb hby at_89) rfl ?_
      show Steps _ _ _ (T8.setTop (mkF mM 91 Ls251 [(.int 4)])) _
      refine XS.iconst X8.here hx rfl (hb hby at_91) ?_
      show Steps _ _ _ (T8.setTop (mkF mM 92 Ls251 [(.int 3), (.int 4)])) _
      refine XS.icmpYes X8.here hx rfl (pc0 := 92) (pc' := 118) rfl (hb hby at_92) rfl (feq (by decide : ¬ ((4 : Int32) = (3 : Int32)))).2 (by decide) (by decide) ?_
      show Steps _ _ _ (T8.setTop (mkF mM 118 Ls251 [])) _
      refine XS.iconst X8.here hx rfl (hb hby at_118) ?_
      show Steps _ _ _ (T8.setTop (mkF mM 119 Ls251 [(.int 4)])) _
      refine st252 _ ?_
      show Steps _ _ _ (T252.setTop (mkF mM 121 Ls251 [(.ref b252)])) _
      refine XS.dup X252.here hx rfl (hb hby at_121) rfl rfl ?_
      show Steps _ _ _ (T252.setTop (mkF mM 122 Ls251 [(.ref b252), (.ref b252)])) _
      refine XS.iconst X252.here hx rfl (hb hby at_122) ?_
      show Steps _ _ _ (T252.setTop (mkF mM 123 Ls251 [(.int 0), (.ref b252), (.ref b252)])) _
      refine XS.iload X252.here hx rfl (hb hby at_123) rfl ?_
      show Steps _ _ _ (T252.setTop (mkF mM 125 Ls251 [(.int x0), (.int 0), (.ref b252), (.ref b252)])) _
      refine st256 _ ?_
      show Steps _ _ _ (T256.setTop (mkF mM 126 Ls251 [(.ref b252)])) _
      refine XS.dup X256.here hx rfl (hb hby at_126) rfl rfl ?_
      show Steps _ _ _ (T256.setTop (mkF mM 127 Ls251 [(.ref b252), (.ref b252)])) _
      refine XS.iconst X256.here hx rfl (hb hby at_127) ?_
      show Steps _ _ _ (T256.setTop (mkF mM 128 Ls251 [(.int 1), (.ref b252), (.ref b252)])) _
      refine XS.iload X256.here hx rfl (hb hby at_128) rfl ?_
      show Steps _ _ _ (T256.setTop (mkF mM 130 Ls251 [(.int x1), (.int 1), (.ref b252), (.ref b252)])) _
      refine st262 _ ?_
      show Steps _ _ _ (T262.setTop (mkF mM 131 Ls251 [(.ref b252)])) _
      refine XS.dup X262.here hx rfl (hb hby at_131) rfl rfl ?_
      show Steps _ _ _ (T262.setTop (mkF mM 132 Ls251 [(.ref b252), (.ref b252)])) _
      refine XS.iconst X262.here hx rfl (hb hby at_132) ?_
      show Steps _ _ _ (T262.setTop (mkF mM 133 Ls251 [(.int 2), (.ref b252), (.ref b252)])) _
      refine XS.iload X262.here hx rfl (hb hby at_133) rfl ?_
      show Steps _ _ _ (T262.setTop (mkF mM 135 Ls251 [(.int x2), (.int 2), (.ref b252), (.ref b252)])) _
      refine st268 _ ?_
      show Steps _ _ _ (T268.setTop (mkF mM 136 Ls251 [(.ref b252)])) _
      refine XS.dup X268.here hx rfl (hb hby at_136) rfl rfl ?_
      show Steps _ _ _ (T268.setTop (mkF mM 137 Ls251 [(.ref b252), (.ref b252)])) _
      refine XS.iconst X268.here hx rfl (hb hby at_137) ?_
      show Steps _ _ _ (T268.setTop (mkF mM 138 Ls251 [(.int 3), (.ref b252), (.ref b252)])) _
      refine XS.iload X268.here hx rfl (hb hby at_138) rfl ?_
      show Steps _ _ _ (T268.setTop (mkF mM 140 Ls251 [(.int x3), (.int 3), (.ref b252), (.ref b252)])) _
      refine st274 _ ?_
      show Steps _ _ _ (T274.setTop (mkF mM 141 Ls251 [(.ref b252)])) _
      refine XS.astore X274.here hx rfl (hb hby at_141) rfl rfl (l' := Ls280) rfl ?_
      exact kg)
    by_cases hfi281 : (own_fi ([x0, x1, x2, x3] : List Int32)) < 4
    · obtain ⟨T283, h283, X283, e283, E283, A283, D283, -, st283⟩ := newO X274 hx hZ0 hown0 (w_7 hw) (w_8 hw) (w_9 hw) e274 (g := (mkF mM 143 Ls280 [])) rfl (hb hby at_143) (by decide) (by decide)
      obtain ⟨b283, g283⟩ : ∃ z, z = h274.size := ⟨_, rfl⟩
      rw [← g283] at A283 D283 st283
      have Sn_b283 : Safe Z own_EL sS.vm h274 b283 := Safe.new (Nat.le_of_eq g283.symm)
      have f284 := (((((O0.ext E252).wr W256 g_b252).wr W262 g_b252).wr W268 g_b252).wr W274 g_b252)
      have g_b283 : n0 ≤ b283 := Nat.le_trans (own_osz f284) (Nat.le_of_eq g283.symm)
      have sz_b283 : h0.size ≤ b283 := Nat.le_trans K279.1 (Nat.le_of_eq g283.symm)
      have CH285 : CHr Z own_EL sS.vm h0 sS.vm h283 := CH275.trans (CHr.ext E283 CH275.1)
      have hk286 := Nat.le_trans hk278 E283.1
      have K287 : Keep h0 h283 [] := K279.ext E283
      have F_b283_value : Fld Z h283 b283 "java/lang/String" "value" "[B" .null := D283 (Or.inr (w_22 hw)) (ty := (.array .byte)) (by decide)
      have F_b283_coder : Fld Z h283 b283 "java/lang/String" "coder" "B" (.int 0) := D283 (Or.inr (w_23 hw)) (ty := .byte) (by decide)
      have f288 := (V274.ext E283)
      have f289 := (f284.ext E283)
      obtain ⟨_, _, ⟨T290, L290, k290, n290⟩, -, X290, ⟨Lc290, hQ290, l290, y290, z290⟩, st290⟩ := X283.specialBack hx (y := (⟨"java/lang/String", "<init>", "([C)V"⟩ : MethodName)) rfl hown0 (mvT hZ0 (w_10 hw)) (mvT hZ0 (w_11 hw)) (mvT hZ0 (w_12 hw)) (by decide) (backOf (W := 1) (rm_in14 l Z a0 hw [] b283 b252 k252 .null (.int 0) x0 x1 x2 x3 zc h283 n0 f289 A283 F_b283_value F_b283_coder g_b283 f288 hfi281 (hbd : ∀ c ∈ ([x0, x1, x2, x3] : List Int32), ¬ c < 0 ∧ ¬ (65535 : Int32) < c) S__assertionsDisabled S_HI_BYTE_SHIFT S_LO_BYTE_SHIFT S_COMPACT_STRINGS hp1) hZ0 (w_12 hw) (w_9 hw) (by decide) (by decide)) (g := (mkF mM 149 Ls280 [(.ref b252), (.ref b283), (.ref b283)])) rfl (by rw [hml]; rfl) (Steps.refl _) (a := b283) (argsL := [(.ref b252)]) (rest := [(.ref b283)]) (lenOf pd_19 rfl) rfl (by show 2 * 0 + _ ≤ _; exact Nat.le_of_eq rfl) (hb hby at_149) (fun _ _ => ⟨rfl, e283, (by decide : 2 + 2 ≤ _), (by decide : 8 + 12 ≤ _)⟩)
      dsimp only [Pt.U, Pt.locs, Pt.cells, Pt.slots] at X290 l290 y290 z290 st290 hQ290
      subst l290 y290 z290
      obtain ⟨t_290, k_290, rfl, Nq290, Kq290, q290_0, q290_1, q290_2, q290_3, q290_4⟩ := hQ290
      have N290 := Fr.app N274 Nq290
      have g_t_290 : n0 ≤ t_290 := Nat.le_trans (own_osz f289) q290_3
      have sz_t_290 : h0.size ≤ t_290 := Nat.le_trans K287.1 q290_3
      have f292 := (Safe.ext E283 CH275.1 Sn_b283)
      have sfp293 := (sfS f292 sf0)
      have CH291 : CHr Z own_EL sS.vm h0 sS.vm T290.heap := CH285.trans (CHr.keep Kq290 sfp293 CH285.1)
      have hk294 := Nat.le_trans hk286 Kq290.1
      have K295 : Keep h0 T290.heap [] := K287.trans Kq290 (allS (Or.inr sz_b283) all0)
      let Ls296 : Array Slot := #[.val (.int p0), .val (.int p1), .val (.int p2), .val (.int p3), .val (.int p4), .val (.int 4), .val (.int x0), .val (.int x1), .val (.int x2), .val (.int x3), .val (.ref b252), .val (.ref b283), .unset]
      obtain ⟨T297, X297, e297, st297⟩ := own_to X290 (h := T290.heap) (g := (mkF mM 154 Ls296 [])) (g' := (mkF mM 214 Ls296 [(.int (own_ex ([x0, x1, x2, x3] : List Int32)))])) (by
        have f298 := (f289.keep Kq290 (allS g_b283 all0))
        obtain ⟨_, _, ⟨T299, L299, k299, n299⟩, -, X299, ⟨Lc299, hQ299, l299, y299, z299⟩, st299⟩ := Jvm.LawKit.callS X290 hx (y := (⟨"com/example/ullr/ullr/files/GlobIsGlobPinLaw", "wild", "(C)Z"⟩ : MethodName)) hown0 (mvT hZ0 (w_82 hw)) (mvT hZ0 (w_83 hw)) (mvT hZ0 (w_3 hw)) (mvT hZ0 (w_84 hw)) (by decide) (backOf (W := 0) (rm_wild l Z a0 hw [] x0 T290.heap n0 f298 ) hZ0 (w_84 hw) (w_3 hw) (by decide) (by decide)) (g := (mkF mM 161 Ls296 [(.int x0)])) rfl (by rw [hml]; rfl) (argsL := [(.int x0)]) (rest := []) (lenOf pd_21 rfl) rfl (by show 2 * 0 + _ ≤ _; exact Nat.le_of_eq rfl) (hb hby at_161) (fun _ _ => ⟨rfl, rfl, (by decide : 4 + 0 ≤ _), (by decide : 20 + 0 ≤ _)⟩)
        dsimp only [Pt.U, Pt.locs, Pt.cells, Pt.slots] at X299 l299 y299 z299 st299 hQ299
        subst l299 y299 z299
        obtain ⟨rfl, rfl, Kq299⟩ := hQ299
        try rw [List.append_nil] at X299
        have pre301 : ∀ tg, Steps pP.tables eE below (T299.setTop (mkF mM 164 Ls296 [(.int (own_wild x0))])) tg → Steps pP.tables eE below (T290.setTop (mkF mM 154 Ls296 [])) tg := fun tg kg => (by
          refine XS.iload X290.here hx rfl (hb hby at_154) rfl ?_
          show Steps _ _ _ (T290.setTop (mkF mM 156 Ls296 [(.int 4)])) _
          refine XS.ifNo X290.here hx rfl (hb hby at_156) rfl ((if0 _ _).trans (tlt (by decide : (0 : Int32) < (4 : Int32))).2.2.2) ?_
          show Steps _ _ _ (T290.setTop (mkF mM 159 Ls296 [])) _
          refine XS.iload X290.here hx rfl (hb hby at_159) rfl ?_
          show Steps _ _ _ (T290.setTop (mkF mM 161 Ls296 [(.int x0)])) _
          refine st299 _ ?_
          exact kg)
        by_cases hc300 : (own_wild x0) = (0 : Int32)
        · obtain ⟨_, _, ⟨T302, L302, k302, n302⟩, -, X302, ⟨Lc302, hQ302, l302, y302, z302⟩, st302⟩ := Jvm.LawKit.callS X299 hx (y := (⟨"com/example/ullr/ullr/files/GlobIsGlobPinLaw", "wild", "(C)Z"⟩ : MethodName)) hown0 (mvT hZ0 (w_82 hw)) (mvT hZ0 (w_83 hw)) (mvT hZ0 (w_3 hw)) (mvT hZ0 (w_84 hw)) (by decide) (backOf (W := 0) (rm_wild l Z a0 hw [] x1 T290.heap n0 f298 ) hZ0 (w_84 hw) (w_3 hw) (by decide) (by decide)) (g := (mkF mM 175 Ls296 [(.int x1)])) rfl (by rw [hml]; rfl) (argsL := [(.int x1)]) (rest := []) (lenOf pd_21 rfl) rfl (by show 2 * 0 + _ ≤ _; exact Nat.le_of_eq rfl) (hb hby at_175) (fun _ _ => ⟨rfl, Kq299, (by decide : 4 + 0 ≤ _), (by decide : 20 + 0 ≤ _)⟩)
          dsimp only [Pt.U, Pt.locs, Pt.cells, Pt.slots] at X302 l302 y302 z302 st302 hQ302
          subst l302 y302 z302
          obtain ⟨rfl, rfl, Kq302⟩ := hQ302
          try rw [List.append_nil] at X302
          have pre304 : ∀ tg, Steps pP.tables eE below (T302.setTop (mkF mM 178 Ls296 [(.int (own_wild x1))])) tg → Steps pP.tables eE below (T290.setTop (mkF mM 154 Ls296 [])) tg := fun tg kg => pre301 tg (by
            refine XS.ifNo X299.here hx rfl (hb hby at_164) rfl ((if0 _ _).trans (teq hc300).2) ?_
            show Steps _ _ _ (T299.setTop (mkF mM 167 Ls296 [])) _
            refine XS.iload X299.here hx rfl (hb hby at_167) rfl ?_
            show Steps _ _ _ (T299.setTop (mkF mM 169 Ls296 [(.int 4)])) _
            refine XS.iconst X299.here hx rfl (hb hby at_169) ?_
            show Steps _ _ _ (T299.setTop (mkF mM 170 Ls296 [(.int 1), (.int 4)])) _
            refine XS.icmpNo X299.here hx rfl (hb hby at_170) rfl (tlt (by decide : (1 : Int32) < (4 : Int32))).2.2.2 ?_
            show Steps _ _ _ (T299.setTop (mkF mM 173 Ls296 [])) _
            refine XS.iload X299.here hx rfl (hb hby at_173) rfl ?_
            show Steps _ _ _ (T299.setTop (mkF mM 175 Ls296 [(.int x1)])) _
            refine st302 _ ?_
            exact kg)
          by_cases hc303 : (own_wild x1) = (0 : Int32)
          · obtain ⟨_, _, ⟨T305, L305, k305, n305⟩, -, X305, ⟨Lc305, hQ305, l305, y305, z305⟩, st305⟩ := Jvm.LawKit.callS X302 hx (y := (⟨"com/example/ullr/ullr/files/GlobIsGlobPinLaw", "wild", "(C)Z"⟩ : MethodName)) hown0 (mvT hZ0 (w_82 hw)) (mvT hZ0 (w_83 hw)) (mvT hZ0 (w_3 hw)) (mvT hZ0 (w_84 hw)) (by decide) (backOf (W := 0) (rm_wild l Z a0 hw [] x2 T290.heap n0 f298 ) hZ0 (w_84 hw) (w_3 hw) (by decide) (by decide)) (g := (mkF mM 189 Ls296 [(.int x2)])) rfl (by rw [hml]; rfl) (argsL := [(.int x2)]) (rest := []) (lenOf pd_21 rfl) rfl (by show 2 * 0 + _ ≤ _; exact Nat.le_of_eq rfl) (hb hby at_189) (fun _ _ => ⟨rfl, Kq302, (by decide : 4 + 0 ≤ _), (by decide : 20 + 0 ≤ _)⟩)
            dsimp only [Pt.U, Pt.locs, Pt.cells, Pt.slots] at X305 l305 y305 z305 st305 hQ305
            subst l305 y305 z305
            obtain ⟨rfl, rfl, Kq305⟩ := hQ305
            try rw [List.append_nil] at X305
            have pre307 : ∀ tg, Steps pP.tables eE below (T305.setTop (mkF mM 192 Ls296 [(.int (own_wild x2))])) tg → Steps pP.tables eE below (T290.setTop (mkF mM 154 Ls296 [])) tg := fun tg kg => pre304 tg (by
              refine XS.ifNo X302.here hx rfl (hb hby at_178) rfl ((if0 _ _).trans (teq hc303).2) ?_
              show Steps _ _ _ (T302.setTop (mkF mM 181 Ls296 [])) _
              refine XS.iload X302.here hx rfl (hb hby at_181) rfl ?_
              show Steps _ _ _ (T302.setTop (mkF mM 183 Ls296 [(.int 4)])) _
              refine XS.iconst X302.here hx rfl (hb hby at_183) ?_
              show Steps _ _ _ (T302.setTop (mkF mM 184 Ls296 [(.int 2), (.int 4)])) _
              refine XS.icmpNo X302.here hx rfl (hb hby at_184) rfl (tlt (by decide : (2 : Int32) < (4 : Int32))).2.2.2 ?_
              show Steps _ _ _ (T302.setTop (mkF mM 187 Ls296 [])) _
              refine XS.iload X302.here hx rfl (hb hby at_187) rfl ?_
              show Steps _ _ _ (T302.setTop (mkF mM 189 Ls296 [(.int x2)])) _
              refine st305 _ ?_
              exact kg)
            by_cases hc306 : (own_wild x2) = (0 : Int32)
            · obtain ⟨_, _, ⟨T308, L308, k308, n308⟩, -, X308, ⟨Lc308, hQ308, l308, y308, z308⟩, st308⟩ := Jvm.LawKit.callS X305 hx (y := (⟨"com/example/ullr/ullr/files/GlobIsGlobPinLaw", "wild", "(C)Z"⟩ : MethodName)) hown0 (mvT hZ0 (w_82 hw)) (mvT hZ0 (w_83 hw)) (mvT hZ0 (w_3 hw)) (mvT hZ0 (w_84 hw)) (by decide) (backOf (W := 0) (rm_wild l Z a0 hw [] x3 T290.heap n0 f298 ) hZ0 (w_84 hw) (w_3 hw) (by decide) (by decide)) (g := (mkF mM 203 Ls296 [(.int x3)])) rfl (by rw [hml]; rfl) (argsL := [(.int x3)]) (rest := []) (lenOf pd_21 rfl) rfl (by show 2 * 0 + _ ≤ _; exact Nat.le_of_eq rfl) (hb hby at_203) (fun _ _ => ⟨rfl, Kq305, (by decide : 4 + 0 ≤ _), (by decide : 20 + 0 ≤ _)⟩)
              dsimp only [Pt.U, Pt.locs, Pt.cells, Pt.slots] at X308 l308 y308 z308 st308 hQ308
              subst l308 y308 z308
              obtain ⟨rfl, rfl, Kq308⟩ := hQ308
              try rw [List.append_nil] at X308
              have pre310 : ∀ tg, Steps pP.tables eE below (T308.setTop (mkF mM 206 Ls296 [(.int (own_wild x3))])) tg → Steps pP.tables eE below (T290.setTop (mkF mM 154 Ls296 [])) tg := fun tg kg => pre307 tg (by
                refine XS.ifNo X305.here hx rfl (hb hby at_192) rfl ((if0 _ _).trans (teq hc306).2) ?_
                show Steps _ _ _ (T305.setTop (mkF mM 195 Ls296 [])) _
                refine XS.iload X305.here hx rfl (hb hby at_195) rfl ?_
                show Steps _ _ _ (T305.setTop (mkF mM 197 Ls296 [(.int 4)])) _
                refine XS.iconst X305.here hx rfl (hb hby at_197) ?_
                show Steps _ _ _ (T305.setTop (mkF mM 198 Ls296 [(.int 3), (.int 4)])) _
                refine XS.icmpNo X305.here hx rfl (hb hby at_198) rfl (tlt (by decide : (3 : Int32) < (4 : Int32))).2.2.2 ?_
                show Steps _ _ _ (T305.setTop (mkF mM 201 Ls296 [])) _
                refine XS.iload X305.here hx rfl (hb hby at_201) rfl ?_
                show Steps _ _ _ (T305.setTop (mkF mM 203 Ls296 [(.int x3)])) _
                refine st308 _ ?_
                exact kg)
              by_cases hc309 : (own_wild x3) = (0 : Int32)
              · refine ⟨T308, X308, Kq308, fun tg kg => ?_⟩
                rw [show (own_ex ([x0, x1, x2, x3] : List Int32)) = (0 : Int32) from by simp only [own_ex, if_pos hc300, if_pos hc303, if_pos hc306, if_pos hc309]] at kg
                refine pre310 tg ?_
                refine XS.ifYes X308.here hx rfl (pc0 := 206) (pc' := 213) rfl (hb hby at_206) rfl ((if0 _ _).trans (teq hc309).1) (by decide) (by decide) ?_
                show Steps _ _ _ (T308.setTop (mkF mM 213 Ls296 [])) _
                refine XS.iconst X308.here hx rfl (hb hby at_213) ?_
                exact kg
              · refine ⟨T308, X308, Kq308, fun tg kg => ?_⟩
                rw [show (own_ex ([x0, x1, x2, x3] : List Int32)) = (1 : Int32) from by simp only [own_ex, if_pos hc300, if_pos hc303, if_pos hc306, if_neg hc309]] at kg
                refine pre310 tg ?_
                refine XS.ifNo X308.here hx rfl (hb hby at_206) rfl ((if0 _ _).trans (feq hc309).1) ?_
                show Steps _ _ _ (T308.setTop (mkF mM 209 Ls296 [])) _
                refine XS.iconst X308.here hx rfl (hb hby at_209) ?_
                show Steps _ _ _ (T308.setTop (mkF mM 210 Ls296 [(.int 1)])) _
                refine XS.goto X308.here hx rfl (pc0 := 210) (pc' := 214) rfl (hb hby at_210) (by decide) (by decide) ?_
                exact kg
            · refine ⟨T305, X305, Kq305, fun tg kg => ?_⟩
              rw [show (own_ex ([x0, x1, x2, x3] : List Int32)) = (1 : Int32) from by simp only [own_ex, if_pos hc300, if_pos hc303, if_neg hc306]] at kg
              refine pre307 tg ?_
              refine XS.ifYes X305.here hx rfl (pc0 := 192) (pc' := 209) rfl (hb hby at_192) rfl ((if0 _ _).trans (feq hc306).2) (by decide) (by decide) ?_
              show Steps _ _ _ (T305.setTop (mkF mM 209 Ls296 [])) _
              refine XS.iconst X305.here hx rfl (hb hby at_209) ?_
              show Steps _ _ _ (T305.setTop (mkF mM 210 Ls296 [(.int 1)])) _
              refine XS.goto X305.here hx rfl (pc0 := 210) (pc' := 214) rfl (hb hby at_210) (by decide) (by decide) ?_
              exact kg
          · refine ⟨T302, X302, Kq302, fun tg kg => ?_⟩
            rw [show (own_ex ([x0, x1, x2, x3] : List Int32)) = (1 : Int32) from by simp only [own_ex, if_pos hc300, if_neg hc303]] at kg
            refine pre304 tg ?_
            refine XS.ifYes X302.here hx rfl (pc0 := 178) (pc' := 209) rfl (hb hby at_178) rfl ((if0 _ _).trans (feq hc303).2) (by decide) (by decide) ?_
            show Steps _ _ _ (T302.setTop (mkF mM 209 Ls296 [])) _
            refine XS.iconst X302.here hx rfl (hb hby at_209) ?_
            show Steps _ _ _ (T302.setTop (mkF mM 210 Ls296 [(.int 1)])) _
            refine XS.goto X302.here hx rfl (pc0 := 210) (pc' := 214) rfl (hb hby at_210) (by decide) (by decide) ?_
            exact kg
        · refine ⟨T299, X299, Kq299, fun tg kg => ?_⟩
          rw [show (own_ex ([x0, x1, x2, x3] : List Int32)) = (1 : Int32) from by simp only [own_ex, if_neg hc300]] at kg
          refine pre301 tg ?_
          refine XS.ifYes X299.here hx rfl (pc0 := 164) (pc' := 209) rfl (hb hby at_164) rfl ((if0 _ _).trans (feq hc300).2) (by decide) (by decide) ?_
          show Steps _ _ _ (T299.setTop (mkF mM 209 Ls296 [])) _
          refine XS.iconst X299.here hx rfl (hb hby at_209) ?_
          show Steps _ _ _ (T299.setTop (mkF mM 210 Ls296 [(.int 1)])) _
          refine XS.goto X299.here hx rfl (pc0 := 210) (pc' := 214) rfl (hb hby at_210) (by decide) (by decide) ?_
          exact kg)
      let Ls311 : Array Slot := #[.val (.int p0), .val (.int p1), .val (.int p2), .val (.int p3), .val (.int p4), .val (.int 4), .val (.int x0), .val (.int x1), .val (.int x2), .val (.int x3), .val (.ref b252), .val (.ref b283), .val (.int (own_ex ([x0, x1, x2, x3] : List Int32)))]
      have f312 := (f289.keep Kq290 (allS g_b283 all0))
      obtain ⟨_, _, ⟨T313, L313, k313, n313⟩, -, X313, ⟨Lc313, hQ313, l313, y313, z313⟩, st313⟩ := Jvm.LawKit.callS X297 hx (y := (⟨"com/example/ullr/ullr/files/Glob", "isGlob", "(Ljava/lang/String;)Z"⟩ : MethodName)) hown0 (mvT hZ0 (w_28 hw)) (mvT hZ0 (w_29 hw)) (mvT hZ0 (w_30 hw)) (mvT hZ0 (w_31 hw)) (by decide) (backOf (W := 0) (rm_glU l Z a0 hw [] b283 t_290 k_290 4 ([x0, x1, x2, x3]) zc fm T290.heap n0 f312 q290_0 q290_1 q290_2 q290_4 (⟨rfl, by decide⟩ : [x0, x1, x2, x3].length = 4 ∧ 4 ≤ 4) (hbd : ∀ c ∈ [x0, x1, x2, x3], ¬ c < 0 ∧ ¬ (65535 : Int32) < c) S__assertionsDisabled S_HI_BYTE_SHIFT S_LO_BYTE_SHIFT S_COMPACT_STRINGS hp1 S_SIOOBE_FORMATTER hp3 (by decide : 0 < 4)) hZ0 (w_31 hw) (w_30 hw) (by decide) (by decide)) (g := (mkF mM 218 Ls311 [(.ref b283)])) rfl (by rw [hml]; rfl) (argsL := [(.ref b283)]) (rest := []) (lenOf pd_20 rfl) rfl (by show 2 * 0 + _ ≤ _; exact Nat.le_of_eq rfl) (hb hby at_218) (fun _ _ => ⟨rfl, e297, (by decide : 4 + 0 ≤ _), (by decide : 20 + 0 ≤ _)⟩)
      dsimp only [Pt.U, Pt.locs, Pt.cells, Pt.slots] at X313 l313 y313 z313 st313 hQ313
      subst l313 y313 z313
      obtain ⟨rfl, rfl, Kq313⟩ := hQ313
      try rw [List.append_nil] at X313
      obtain ⟨fs, hr, hrun, hended, hR1, hR2, hR3, hR4⟩ := Stand.leaveW (s := sS) (vm₁ := sS.vm) X313 hS0 (by rw [Kq313]; exact hk294) (v := some (.int 1)) (fun h => by rw [Bd.returns] at h; cases h)
      refine ⟨_, _, pre282 _ ?_, hrun, hended, _, _, rfl, ?_, ?_, hR1, hR2, hR3, hR4.mono (by decide) (by decide)⟩
      · refine st283 _ ?_
        show Steps _ _ _ (T283.setTop (mkF mM 146 Ls280 [(.ref b283)])) _
        refine XS.dup X283.here hx rfl (hb hby at_146) rfl rfl ?_
        show Steps _ _ _ (T283.setTop (mkF mM 147 Ls280 [(.ref b283), (.ref b283)])) _
        refine XS.aload X283.here hx rfl (hb hby at_147) rfl rfl ?_
        show Steps _ _ _ (T283.setTop (mkF mM 149 Ls280 [(.ref b252), (.ref b283), (.ref b283)])) _
        refine st290.trans ?_
        show Steps _ _ _ (T290.setTop (mkF mM 152 Ls280 [(.ref b283)])) _
        refine XS.astore X290.here hx rfl (hb hby at_152) rfl rfl (l' := Ls296) rfl ?_
        show Steps _ _ _ (T290.setTop (mkF mM 154 Ls296 [])) _
        refine st297 _ ?_
        show Steps _ _ _ (T297.setTop (mkF mM 214 Ls296 [(.int (own_ex ([x0, x1, x2, x3] : List Int32)))])) _
        refine XS.istore X297.here hx rfl (hb hby at_214) rfl (l' := Ls311) rfl ?_
        show Steps _ _ _ (T297.setTop (mkF mM 216 Ls311 [])) _
        refine XS.aload X297.here hx rfl (hb hby at_216) rfl rfl ?_
        show Steps _ _ _ (T297.setTop (mkF mM 218 Ls311 [(.ref b283)])) _
        refine st313 _ ?_
        show Steps _ _ _ (T313.setTop (mkF mM 221 Ls311 [(.int (own_gl [x0, x1, x2, x3] 4))])) _
        refine XS.iload X313.here hx rfl (hb hby at_221) rfl ?_
        show Steps _ _ _ (T313.setTop (mkF mM 223 Ls311 [(.int (own_ex ([x0, x1, x2, x3] : List Int32))), (.int (own_gl [x0, x1, x2, x3] 4))])) _
        refine XS.icmpNo X313.here hx rfl (hb hby at_223) rfl (teq (own_gl_ex ([x0, x1, x2, x3] : List Int32) _ rfl (Nat.le_of_ble_eq_true rfl))).2 ?_
        show Steps _ _ _ (T313.setTop (mkF mM 226 Ls311 [])) _
        refine XS.iconst X313.here hx rfl (hb hby at_226) ?_
        show Steps _ _ _ (T313.setTop (mkF mM 227 Ls311 [(.int 1)])) _
        refine XS.goto X313.here hx rfl (pc0 := 227) (pc' := 231) rfl (hb hby at_227) (by decide) (by decide) ?_
        show Steps _ _ _ (T313.setTop (mkF mM 231 Ls311 [(.int 1)])) _
        exact retN X313 hx (t := .boolean) Bd.returns (by simp) (hb hby at_231) hr
      · show Q_law Z p0 p1 p2 p3 p4 zc fm h0 n0 _ T313.heap _ T313.vm
        rw [Kq313]
        exact ⟨rfl, N290, K295⟩
      · show CHr Z own_EL sS.vm sS.heap T313.vm T313.heap
        rw [hh, Kq313]
        exact CH291.trans (CHv.at X313 hZ0 hEL CH291.1)
    · have hcs : ∀ c ∈ ([x0, x1, x2, x3] : List Int32), ¬ c < 0 ∧ ¬ (255 : Int32) < c := fun c hc => ⟨(hbd c hc).1, own_fi_all _ hfi281 c hc⟩
      obtain ⟨T315, h315, X315, e315, E315, A315, D315, -, st315⟩ := newO X274 hx hZ0 hown0 (w_7 hw) (w_8 hw) (w_9 hw) e274 (g := (mkF mM 143 Ls280 [])) rfl (hb hby at_143) (by decide) (by decide)
      obtain ⟨b315, g315⟩ : ∃ z, z = h274.size := ⟨_, rfl⟩
      rw [← g315] at A315 D315 st315
      have Sn_b315 : Safe Z own_EL sS.vm h274 b315 := Safe.new (Nat.le_of_eq g315.symm)
      have f316 := (((((O0.ext E252).wr W256 g_b252).wr W262 g_b252).wr W268 g_b252).wr W274 g_b252)
      have g_b315 : n0 ≤ b315 := Nat.le_trans (own_osz f316) (Nat.le_of_eq g315.symm)
      have sz_b315 : h0.size ≤ b315 := Nat.le_trans K279.1 (Nat.le_of_eq g315.symm)
      have CH317 : CHr Z own_EL sS.vm h0 sS.vm h315 := CH275.trans (CHr.ext E315 CH275.1)
      have hk318 := Nat.le_trans hk278 E315.1
      have K319 : Keep h0 h315 [] := K279.ext E315
      have F_b315_value : Fld Z h315 b315 "java/lang/String" "value" "[B" .null := D315 (Or.inr (w_22 hw)) (ty := (.array .byte)) (by decide)
      have F_b315_coder : Fld Z h315 b315 "java/lang/String" "coder" "B" (.int 0) := D315 (Or.inr (w_23 hw)) (ty := .byte) (by decide)
      have f320 := (f316.ext E315)
      have f321 := (V274.ext E315)
      obtain ⟨_, _, ⟨T322, L322, k322, n322⟩, -, X322, ⟨Lc322, hQ322, l322, y322, z322⟩, st322⟩ := X315.specialBack hx (y := (⟨"java/lang/String", "<init>", "([C)V"⟩ : MethodName)) rfl hown0 (mvT hZ0 (w_10 hw)) (mvT hZ0 (w_11 hw)) (mvT hZ0 (w_12 hw)) (by decide) (own_new (W := 1) hZ0 hw (cs := [x0, x1, x2, x3]) (n := 4) g_b315 (own_osz f320) A315 F_b315_value F_b315_coder f321 (Sta.ext (f320).2 S_COMPACT_STRINGS) hp1 rfl rfl (by decide) (by decide) hcs (by decide) (by decide)) (g := (mkF mM 149 Ls280 [(.ref b252), (.ref b315), (.ref b315)])) rfl (by rw [hml]; rfl) (Steps.refl _) (a := b315) (argsL := [(.ref b252)]) (rest := [(.ref b315)]) (lenOf pd_19 rfl) rfl (by show 2 * 0 + _ ≤ _; exact Nat.le_of_eq rfl) (hb hby at_149) (fun _ _ => ⟨rfl, e315, (by decide : 2 + 1 ≤ _), (by decide : 8 + 4 ≤ _)⟩)
      dsimp only [Pt.U, Pt.locs, Pt.cells, Pt.slots] at X322 l322 y322 z322 st322 hQ322
      subst l322 y322 z322
      obtain ⟨rfl, Nq322, Kq322, t322, kb322, hs322, Sq322⟩ := hQ322
      have N322 := Fr.app N274 Nq322
      have g_t322 : n0 ≤ t322 := Nat.le_trans (own_osz f320) hs322
      have sz_t322 : h0.size ≤ t322 := Nat.le_trans K319.1 hs322
      have f324 := (Safe.ext E315 CH275.1 Sn_b315)
      have sfp325 := (sfS f324 sf0)
      have CH323 : CHr Z own_EL sS.vm h0 sS.vm T322.heap := CH317.trans (CHr.keep Kq322 sfp325 CH317.1)
      have hk326 := Nat.le_trans hk318 Kq322.1
      have K327 : Keep h0 T322.heap [] := K319.trans Kq322 (allS (Or.inr sz_b315) all0)
      let Ls328 : Array Slot := #[.val (.int p0), .val (.int p1), .val (.int p2), .val (.int p3), .val (.int p4), .val (.int 4), .val (.int x0), .val (.int x1), .val (.int x2), .val (.int x3), .val (.ref b252), .val (.ref b315), .unset]
      obtain ⟨T329, X329, e329, st329⟩ := own_to X322 (h := T322.heap) (g := (mkF mM 154 Ls328 [])) (g' := (mkF mM 214 Ls328 [(.int (own_ex ([x0, x1, x2, x3] : List Int32)))])) (by
        have f330 := (f320.keep Kq322 (allS g_b315 all0))
        obtain ⟨_, _, ⟨T331, L331, k331, n331⟩, -, X331, ⟨Lc331, hQ331, l331, y331, z331⟩, st331⟩ := Jvm.LawKit.callS X322 hx (y := (⟨"com/example/ullr/ullr/files/GlobIsGlobPinLaw", "wild", "(C)Z"⟩ : MethodName)) hown0 (mvT hZ0 (w_82 hw)) (mvT hZ0 (w_83 hw)) (mvT hZ0 (w_3 hw)) (mvT hZ0 (w_84 hw)) (by decide) (backOf (W := 0) (rm_wild l Z a0 hw [] x0 T322.heap n0 f330 ) hZ0 (w_84 hw) (w_3 hw) (by decide) (by decide)) (g := (mkF mM 161 Ls328 [(.int x0)])) rfl (by rw [hml]; rfl) (argsL := [(.int x0)]) (rest := []) (lenOf pd_21 rfl) rfl (by show 2 * 0 + _ ≤ _; exact Nat.le_of_eq rfl) (hb hby at_161) (fun _ _ => ⟨rfl, rfl, (by decide : 3 + 0 ≤ _), (by decide : 12 + 0 ≤ _)⟩)
        dsimp only [Pt.U, Pt.locs, Pt.cells, Pt.slots] at X331 l331 y331 z331 st331 hQ331
        subst l331 y331 z331
        obtain ⟨rfl, rfl, Kq331⟩ := hQ331
        try rw [List.append_nil] at X331
        have pre333 : ∀ tg, Steps pP.tables eE below (T331.setTop (mkF mM 164 Ls328 [(.int (own_wild x0))])) tg → Steps pP.tables eE below (T322.setTop (mkF mM 154 Ls328 [])) tg := fun tg kg => (by
          refine XS.iload X322.here hx rfl (hb hby at_154) rfl ?_
          show Steps _ _ _ (T322.setTop (mkF mM 156 Ls328 [(.int 4)])) _
          refine XS.ifNo X322.here hx rfl (hb hby at_156) rfl ((if0 _ _).trans (tlt (by decide : (0 : Int32) < (4 : Int32))).2.2.2) ?_
          show Steps _ _ _ (T322.setTop (mkF mM 159 Ls328 [])) _
          refine XS.iload X322.here hx rfl (hb hby at_159) rfl ?_
          show Steps _ _ _ (T322.setTop (mkF mM 161 Ls328 [(.int x0)])) _
          refine st331 _ ?_
          exact kg)
        by_cases hc332 : (own_wild x0) = (0 : Int32)
        · obtain ⟨_, _, ⟨T334, L334, k334, n334⟩, -, X334, ⟨Lc334, hQ334, l334, y334, z334⟩, st334⟩ := Jvm.LawKit.callS X331 hx (y := (⟨"com/example/ullr/ullr/files/GlobIsGlobPinLaw", "wild", "(C)Z"⟩ : MethodName)) hown0 (mvT hZ0 (w_82 hw)) (mvT hZ0 (w_83 hw)) (mvT hZ0 (w_3 hw)) (mvT hZ0 (w_84 hw)) (by decide) (backOf (W := 0) (rm_wild l Z a0 hw [] x1 T322.heap n0 f330 ) hZ0 (w_84 hw) (w_3 hw) (by decide) (by decide)) (g := (mkF mM 175 Ls328 [(.int x1)])) rfl (by rw [hml]; rfl) (argsL := [(.int x1)]) (rest := []) (lenOf pd_21 rfl) rfl (by show 2 * 0 + _ ≤ _; exact Nat.le_of_eq rfl) (hb hby at_175) (fun _ _ => ⟨rfl, Kq331, (by decide : 3 + 0 ≤ _), (by decide : 12 + 0 ≤ _)⟩)
          dsimp only [Pt.U, Pt.locs, Pt.cells, Pt.slots] at X334 l334 y334 z334 st334 hQ334
          subst l334 y334 z334
          obtain ⟨rfl, rfl, Kq334⟩ := hQ334
          try rw [List.append_nil] at X334
          have pre336 : ∀ tg, Steps pP.tables eE below (T334.setTop (mkF mM 178 Ls328 [(.int (own_wild x1))])) tg → Steps pP.tables eE below (T322.setTop (mkF mM 154 Ls328 [])) tg := fun tg kg => pre333 tg (by
            refine XS.ifNo X331.here hx rfl (hb hby at_164) rfl ((if0 _ _).trans (teq hc332).2) ?_
            show Steps _ _ _ (T331.setTop (mkF mM 167 Ls328 [])) _
            refine XS.iload X331.here hx rfl (hb hby at_167) rfl ?_
            show Steps _ _ _ (T331.setTop (mkF mM 169 Ls328 [(.int 4)])) _
            refine XS.iconst X331.here hx rfl (hb hby at_169) ?_
            show Steps _ _ _ (T331.setTop (mkF mM 170 Ls328 [(.int 1), (.int 4)])) _
            refine XS.icmpNo X331.here hx rfl (hb hby at_170) rfl (tlt (by decide : (1 : Int32) < (4 : Int32))).2.2.2 ?_
            show Steps _ _ _ (T331.setTop (mkF mM 173 Ls328 [])) _
            refine XS.iload X331.here hx rfl (hb hby at_173) rfl ?_
            show Steps _ _ _ (T331.setTop (mkF mM 175 Ls328 [(.int x1)])) _
            refine st334 _ ?_
            exact kg)
          by_cases hc335 : (own_wild x1) = (0 : Int32)
          · obtain ⟨_, _, ⟨T337, L337, k337, n337⟩, -, X337, ⟨Lc337, hQ337, l337, y337, z337⟩, st337⟩ := Jvm.LawKit.callS X334 hx (y := (⟨"com/example/ullr/ullr/files/GlobIsGlobPinLaw", "wild", "(C)Z"⟩ : MethodName)) hown0 (mvT hZ0 (w_82 hw)) (mvT hZ0 (w_83 hw)) (mvT hZ0 (w_3 hw)) (mvT hZ0 (w_84 hw)) (by decide) (backOf (W := 0) (rm_wild l Z a0 hw [] x2 T322.heap n0 f330 ) hZ0 (w_84 hw) (w_3 hw) (by decide) (by decide)) (g := (mkF mM 189 Ls328 [(.int x2)])) rfl (by rw [hml]; rfl) (argsL := [(.int x2)]) (rest := []) (lenOf pd_21 rfl) rfl (by show 2 * 0 + _ ≤ _; exact Nat.le_of_eq rfl) (hb hby at_189) (fun _ _ => ⟨rfl, Kq334, (by decide : 3 + 0 ≤ _), (by decide : 12 + 0 ≤ _)⟩)
            dsimp only [Pt.U, Pt.locs, Pt.cells, Pt.slots] at X337 l337 y337 z337 st337 hQ337
            subst l337 y337 z337
            obtain ⟨rfl, rfl, Kq337⟩ := hQ337
            try rw [List.append_nil] at X337
            have pre339 : ∀ tg, Steps pP.tables eE below (T337.setTop (mkF mM 192 Ls328 [(.int (own_wild x2))])) tg → Steps pP.tables eE below (T322.setTop (mkF mM 154 Ls328 [])) tg := fun tg kg => pre336 tg (by
              refine XS.ifNo X334.here hx rfl (hb hby at_178) rfl ((if0 _ _).trans (teq hc335).2) ?_
              show Steps _ _ _ (T334.setTop (mkF mM 181 Ls328 [])) _
              refine XS.iload X334.here hx rfl (hb hby at_181) rfl ?_
              show Steps _ _ _ (T334.setTop (mkF mM 183 Ls328 [(.int 4)])) _
              refine XS.iconst X334.here hx rfl (hb hby at_183) ?_
              show Steps _ _ _ (T334.setTop (mkF mM 184 Ls328 [(.int 2), (.int 4)])) _
              refine XS.icmpNo X334.here hx rfl (hb hby at_184) rfl (tlt (by decide : (2 : Int32) < (4 : Int32))).2.2.2 ?_
              show Steps _ _ _ (T334.setTop (mkF mM 187 Ls328 [])) _
              refine XS.iload X334.here hx rfl (hb hby at_187) rfl ?_
              show Steps _ _ _ (T334.setTop (mkF mM 189 Ls328 [(.int x2)])) _
              refine st337 _ ?_
              exact kg)
            by_cases hc338 : (own_wild x2) = (0 : Int32)
            · obtain ⟨_, _, ⟨T340, L340, k340, n340⟩, -, X340, ⟨Lc340, hQ340, l340, y340, z340⟩, st340⟩ := Jvm.LawKit.callS X337 hx (y := (⟨"com/example/ullr/ullr/files/GlobIsGlobPinLaw", "wild", "(C)Z"⟩ : MethodName)) hown0 (mvT hZ0 (w_82 hw)) (mvT hZ0 (w_83 hw)) (mvT hZ0 (w_3 hw)) (mvT hZ0 (w_84 hw)) (by decide) (backOf (W := 0) (rm_wild l Z a0 hw [] x3 T322.heap n0 f330 ) hZ0 (w_84 hw) (w_3 hw) (by decide) (by decide)) (g := (mkF mM 203 Ls328 [(.int x3)])) rfl (by rw [hml]; rfl) (argsL := [(.int x3)]) (rest := []) (lenOf pd_21 rfl) rfl (by show 2 * 0 + _ ≤ _; exact Nat.le_of_eq rfl) (hb hby at_203) (fun _ _ => ⟨rfl, Kq337, (by decide : 3 + 0 ≤ _), (by decide : 12 + 0 ≤ _)⟩)
              dsimp only [Pt.U, Pt.locs, Pt.cells, Pt.slots] at X340 l340 y340 z340 st340 hQ340
              subst l340 y340 z340
              obtain ⟨rfl, rfl, Kq340⟩ := hQ340
              try rw [List.append_nil] at X340
              have pre342 : ∀ tg, Steps pP.tables eE below (T340.setTop (mkF mM 206 Ls328 [(.int (own_wild x3))])) tg → Steps pP.tables eE below (T322.setTop (mkF mM 154 Ls328 [])) tg := fun tg kg => pre339 tg (by
                refine XS.ifNo X337.here hx rfl (hb hby at_192) rfl ((if0 _ _).trans (teq hc338).2) ?_
                show Steps _ _ _ (T337.setTop (mkF mM 195 Ls328 [])) _
                refine XS.iload X337.here hx rfl (hb hby at_195) rfl ?_
                show Steps _ _ _ (T337.setTop (mkF mM 197 Ls328 [(.int 4)])) _
                refine XS.iconst X337.here hx rfl (hb hby at_197) ?_
                show Steps _ _ _ (T337.setTop (mkF mM 198 Ls328 [(.int 3), (.int 4)])) _
                refine XS.icmpNo X337.here hx rfl (hb hby at_198) rfl (tlt (by decide : (3 : Int32) < (4 : Int32))).2.2.2 ?_
                show Steps _ _ _ (T337.setTop (mkF mM 201 Ls328 [])) _
                refine XS.iload X337.here hx rfl (hb hby at_201) rfl ?_
                show Steps _ _ _ (T337.setTop (mkF mM 203 Ls328 [(.int x3)])) _
                refine st340 _ ?_
                exact kg)
              by_cases hc341 : (own_wild x3) = (0 : Int32)
              · refine ⟨T340, X340, Kq340, fun tg kg => ?_⟩
                rw [show (own_ex ([x0, x1, x2, x3] : List Int32)) = (0 : Int32) from by simp only [own_ex, if_pos hc332, if_pos hc335, if_pos hc338, if_pos hc341]] at kg
                refine pre342 tg ?_
                refine XS.ifYes X340.here hx rfl (pc0 := 206) (pc' := 213) rfl (hb hby at_206) rfl ((if0 _ _).trans (teq hc341).1) (by decide) (by decide) ?_
                show Steps _ _ _ (T340.setTop (mkF mM 213 Ls328 [])) _
                refine XS.iconst X340.here hx rfl (hb hby at_213) ?_
                exact kg
              · refine ⟨T340, X340, Kq340, fun tg kg => ?_⟩
                rw [show (own_ex ([x0, x1, x2, x3] : List Int32)) = (1 : Int32) from by simp only [own_ex, if_pos hc332, if_pos hc335, if_pos hc338, if_neg hc341]] at kg
                refine pre342 tg ?_
                refine XS.ifNo X340.here hx rfl (hb hby at_206) rfl ((if0 _ _).trans (feq hc341).1) ?_
                show Steps _ _ _ (T340.setTop (mkF mM 209 Ls328 [])) _
                refine XS.iconst X340.here hx rfl (hb hby at_209) ?_
                show Steps _ _ _ (T340.setTop (mkF mM 210 Ls328 [(.int 1)])) _
                refine XS.goto X340.here hx rfl (pc0 := 210) (pc' := 214) rfl (hb hby at_210) (by decide) (by decide) ?_
                exact kg
            · refine ⟨T337, X337, Kq337, fun tg kg => ?_⟩
              rw [show (own_ex ([x0, x1, x2, x3] : List Int32)) = (1 : Int32) from by simp only [own_ex, if_pos hc332, if_pos hc335, if_neg hc338]] at kg
              refine pre339 tg ?_
              refine XS.ifYes X337.here hx rfl (pc0 := 192) (pc' := 209) rfl (hb hby at_192) rfl ((if0 _ _).trans (feq hc338).2) (by decide) (by decide) ?_
              show Steps _ _ _ (T337.setTop (mkF mM 209 Ls328 [])) _
              refine XS.iconst X337.here hx rfl (hb hby at_209) ?_
              show Steps _ _ _ (T337.setTop (mkF mM 210 Ls328 [(.int 1)])) _
              refine XS.goto X337.here hx rfl (pc0 := 210) (pc' := 214) rfl (hb hby at_210) (by decide) (by decide) ?_
              exact kg
          · refine ⟨T334, X334, Kq334, fun tg kg => ?_⟩
            rw [show (own_ex ([x0, x1, x2, x3] : List Int32)) = (1 : Int32) from by simp only [own_ex, if_pos hc332, if_neg hc335]] at kg
            refine pre336 tg ?_
            refine XS.ifYes X334.here hx rfl (pc0 := 178) (pc' := 209) rfl (hb hby at_178) rfl ((if0 _ _).trans (feq hc335).2) (by decide) (by decide) ?_
            show Steps _ _ _ (T334.setTop (mkF mM 209 Ls328 [])) _
            refine XS.iconst X334.here hx rfl (hb hby at_209) ?_
            show Steps _ _ _ (T334.setTop (mkF mM 210 Ls328 [(.int 1)])) _
            refine XS.goto X334.here hx rfl (pc0 := 210) (pc' := 214) rfl (hb hby at_210) (by decide) (by decide) ?_
            exact kg
        · refine ⟨T331, X331, Kq331, fun tg kg => ?_⟩
          rw [show (own_ex ([x0, x1, x2, x3] : List Int32)) = (1 : Int32) from by simp only [own_ex, if_neg hc332]] at kg
          refine pre333 tg ?_
          refine XS.ifYes X331.here hx rfl (pc0 := 164) (pc' := 209) rfl (hb hby at_164) rfl ((if0 _ _).trans (feq hc332).2) (by decide) (by decide) ?_
          show Steps _ _ _ (T331.setTop (mkF mM 209 Ls328 [])) _
          refine XS.iconst X331.here hx rfl (hb hby at_209) ?_
          show Steps _ _ _ (T331.setTop (mkF mM 210 Ls328 [(.int 1)])) _
          refine XS.goto X331.here hx rfl (pc0 := 210) (pc' := 214) rfl (hb hby at_210) (by decide) (by decide) ?_
          exact kg)
      let Ls343 : Array Slot := #[.val (.int p0), .val (.int p1), .val (.int p2), .val (.int p3), .val (.int p4), .val (.int 4), .val (.int x0), .val (.int x1), .val (.int x2), .val (.int x3), .val (.ref b252), .val (.ref b315), .val (.int (own_ex ([x0, x1, x2, x3] : List Int32)))]
      have f344 := (f320.keep Kq322 (allS g_b315 all0))
      obtain ⟨_, _, ⟨T345, L345, k345, n345⟩, -, X345, ⟨Lc345, hQ345, l345, y345, z345⟩, st345⟩ := Jvm.LawKit.callS X329 hx (y := (⟨"com/example/ullr/ullr/files/Glob", "isGlob", "(Ljava/lang/String;)Z"⟩ : MethodName)) hown0 (mvT hZ0 (w_28 hw)) (mvT hZ0 (w_29 hw)) (mvT hZ0 (w_30 hw)) (mvT hZ0 (w_31 hw)) (by decide) (backOf (W := 0) (rm_glL l Z a0 hw [] b315 t322 kb322 ([x0, x1, x2, x3]) zc fm T322.heap n0 f344 (⟨(Sq322).1, (Sq322).2.1, (Sq322).2.2.1, (Sq322).2.2.2.1, (Sq322).2.2.2.2⟩ : own_Str Z T322.heap b315 t322 kb322 [x0, x1, x2, x3]) S_COMPACT_STRINGS hp1 S_SIOOBE_FORMATTER hp3) hZ0 (w_31 hw) (w_30 hw) (by decide) (by decide)) (g := (mkF mM 218 Ls343 [(.ref b315)])) rfl (by rw [hml]; rfl) (argsL := [(.ref b315)]) (rest := []) (lenOf pd_20 rfl) rfl (by show 2 * 0 + _ ≤ _; exact Nat.le_of_eq rfl) (hb hby at_218) (fun _ _ => ⟨rfl, e329, (by decide : 3 + 0 ≤ _), (by decide : 12 + 0 ≤ _)⟩)
      dsimp only [Pt.U, Pt.locs, Pt.cells, Pt.slots] at X345 l345 y345 z345 st345 hQ345
      subst l345 y345 z345
      obtain ⟨rfl, rfl, Kq345⟩ := hQ345
      try rw [List.append_nil] at X345
      obtain ⟨fs, hr, hrun, hended, hR1, hR2, hR3, hR4⟩ := Stand.leaveW (s := sS) (vm₁ := sS.vm) X345 hS0 (by rw [Kq345]; exact hk326) (v := some (.int 1)) (fun h => by rw [Bd.returns] at h; cases h)
      refine ⟨_, _, pre282 _ ?_, hrun, hended, _, _, rfl, ?_, ?_, hR1, hR2, hR3, hR4.mono (by decide) (by decide)⟩
      · refine st315 _ ?_
        show Steps _ _ _ (T315.setTop (mkF mM 146 Ls280 [(.ref b315)])) _
        refine XS.dup X315.here hx rfl (hb hby at_146) rfl rfl ?_
        show Steps _ _ _ (T315.setTop (mkF mM 147 Ls280 [(.ref b315), (.ref b315)])) _
        refine XS.aload X315.here hx rfl (hb hby at_147) rfl rfl ?_
        show Steps _ _ _ (T315.setTop (mkF mM 149 Ls280 [(.ref b252), (.ref b315), (.ref b315)])) _
        refine st322.trans ?_
        show Steps _ _ _ (T322.setTop (mkF mM 152 Ls280 [(.ref b315)])) _
        refine XS.astore X322.here hx rfl (hb hby at_152) rfl rfl (l' := Ls328) rfl ?_
        show Steps _ _ _ (T322.setTop (mkF mM 154 Ls328 [])) _
        refine st329 _ ?_
        show Steps _ _ _ (T329.setTop (mkF mM 214 Ls328 [(.int (own_ex ([x0, x1, x2, x3] : List Int32)))])) _
        refine XS.istore X329.here hx rfl (hb hby at_214) rfl (l' := Ls343) rfl ?_
        show Steps _ _ _ (T329.setTop (mkF mM 216 Ls343 [])) _
        refine XS.aload X329.here hx rfl (hb hby at_216) rfl rfl ?_
        show Steps _ _ _ (T329.setTop (mkF mM 218 Ls343 [(.ref b315)])) _
        refine st345 _ ?_
        show Steps _ _ _ (T345.setTop (mkF mM 221 Ls343 [(.int (own_gl [x0, x1, x2, x3] ([x0, x1, x2, x3].length - 0)))])) _
        refine XS.iload X345.here hx rfl (hb hby at_221) rfl ?_
        show Steps _ _ _ (T345.setTop (mkF mM 223 Ls343 [(.int (own_ex ([x0, x1, x2, x3] : List Int32))), (.int (own_gl [x0, x1, x2, x3] ([x0, x1, x2, x3].length - 0)))])) _
        refine XS.icmpNo X345.here hx rfl (hb hby at_223) rfl (teq (own_gl_ex ([x0, x1, x2, x3] : List Int32) _ rfl (Nat.le_of_ble_eq_true rfl))).2 ?_
        show Steps _ _ _ (T345.setTop (mkF mM 226 Ls343 [])) _
        refine XS.iconst X345.here hx rfl (hb hby at_226) ?_
        show Steps _ _ _ (T345.setTop (mkF mM 227 Ls343 [(.int 1)])) _
        refine XS.goto X345.here hx rfl (pc0 := 227) (pc' := 231) rfl (hb hby at_227) (by decide) (by decide) ?_
        show Steps _ _ _ (T345.setTop (mkF mM 231 Ls343 [(.int 1)])) _
        exact retN X345 hx (t := .boolean) Bd.returns (by simp) (hb hby at_231) hr
      · show Q_law Z p0 p1 p2 p3 p4 zc fm h0 n0 _ T345.heap _ T345.vm
        rw [Kq345]
        exact ⟨rfl, N322, K327⟩
      · show CHr Z own_EL sS.vm sS.heap T345.vm T345.heap
        rw [hh, Kq345]
        exact CH323.trans (CHv.at X345 hZ0 hEL CH323.1)
theorem own_held {s : State} (h : constsHeld consts_1 s) : ∀ p ∈ own_EL, Jvm.Lit.constHeld s p.1 p.2 := fun p hp => h p ((by decide : ∀ p ∈ own_EL, p ∈ consts_1) p hp)
set_option maxRecDepth 65536 in
set_option maxHeartbeats 40000000 in
theorem comes_1 {Post : Tables → Env → Array Value → State → Outcome → State → Prop} (hpost : ∀ tb e args s v u, (limb_1_1.after args s (.returned v) u = true ∧ limb_1_2.after args s (.returned v) u = true ∧ True) → ReturnedEndW s (.returned v) u (Jvm.fieldLocs frame_1_writes args s ++ Jvm.arrayLocs frame_1_arrays args s ++ Jvm.staticLocs frame_1_statics s) 24 1152 → Post tb e args s (.returned v) u) :
    ArmFor flags0 classFile x code maxLocals ret World_1 tables_1 room_1 Calls_1 rest_1 Pre_1 Post := by
  intro l hfl _ _ p e ha hc hk s m args below hf hA hF happ hP
  obtain ⟨hcalls, hrest, hpre⟩ := hP
  obtain ⟨-, -, -, hnamed, -, -, -, hat⟩ := (Spec.applies_iff hf).mp happ
  obtain ⟨hg, hn⟩ := and_e (Cond.before_iff.mp (show (Jvm.Cond.and given_1 narrow_1).before args s = true from hpre))
  obtain ⟨hcnt, hg0⟩ := and_e hg
  obtain ⟨ga0, hg1⟩ := and_e hg0
  obtain ⟨ga1, hg2⟩ := and_e hg1
  obtain ⟨ga2, hg3⟩ := and_e hg2
  obtain ⟨ga3, hg4⟩ := and_e hg3
  have ga4 := hg4
  obtain ⟨w0, w1, w2, w3, w4, rfl⟩ : ∃ w0 w1 w2 w3 w4 : Value, args = #[w0, w1, w2, w3, w4] := by
    have hs : args.size = 5 := by simpa [Cond.value, given_1] using hcnt
    obtain ⟨L⟩ := args
    match L, hs with
    | [w0, w1, w2, w3, w4], _ => exact ⟨w0, w1, w2, w3, w4, rfl⟩
  have hw := fun d (hd : d ∈ tables_1) => atoms_spec (ws := Jvm.Cond.code x code maxLocals ret :: tables_1) hat d (List.mem_cons_of_mem _ hd)
  have hfit : Fit s := fun {y c} hc i hi => by
    obtain ⟨ha, rfl⟩ := Array.getElem?_eq_some_iff.mp hc
    have q := List.all_eq_true.mp ((Array.all_eq_true_iff_forall_mem.mp hF) _ (Array.getElem_mem ha)) i (List.mem_range.mpr hi)
    simpa [Array.getElem?_eq_getElem hi] using q
  obtain ⟨i0, ei0⟩ := is_v ga0
  obtain rfl : w0 = (.int i0) := Option.some.inj ei0
  obtain ⟨i1, ei1⟩ := is_v ga1
  obtain rfl : w1 = (.int i1) := Option.some.inj ei1
  obtain ⟨i2, ei2⟩ := is_v ga2
  obtain rfl : w2 = (.int i2) := Option.some.inj ei2
  obtain ⟨i3, ei3⟩ := is_v ga3
  obtain rfl : w3 = (.int i3) := Option.some.inj ei3
  obtain ⟨i4, ei4⟩ := is_v ga4
  obtain rfl : w4 = (.int i4) := Option.some.inj ei4
  obtain ⟨hsets, hown0⟩ := atoms_of _ (rest_1_c_eq ▸ (show rest_1_c.before _ s = true from hrest))
  have hr0 := Cond.before_iff.mp hown0
  have nzc := not_v (Cond.before_iff.mp (hsets _ (List.mem_of_getElem? (i := 2) rfl)))
  obtain ⟨zc, ezc⟩ := is_v (Cond.before_iff.mp (hsets _ (List.mem_of_getElem? (i := 1) rfl)))
  have Szc : Sta s s.heap "java/lang/String" "COMPACT_STRINGS" "Z" (.int zc) := Sta.start ezc (Or.inl (hsets _ (List.mem_of_getElem? (i := 0) rfl)))
  obtain ⟨fm, efm, rfm⟩ := isR_v (Cond.before_iff.mp (hsets _ (List.mem_of_getElem? (i := 8) rfl)))
  have Sfm : Sta s s.heap "jdk/internal/util/Preconditions" "SIOOBE_FORMATTER" "Ljava/util/function/BiFunction;" fm := Sta.start efm (Or.inl (hsets _ (List.mem_of_getElem? (i := 7) rfl)))
  have hzc : ¬ (zc = (0 : Int32)) := gotF (Cond.eq_ints ezc (Term.int_eval (0))) nzc
  have ead := eqv_i (Term.int_eval ((1 : Int32))) (Cond.before_iff.mp (hsets _ (List.mem_of_getElem? (i := 12) rfl)))
  have Sad : Sta s s.heap "java/lang/StringUTF16" "$assertionsDisabled" "Z" (.int 1) := Sta.start ead (Or.inl (hsets _ (List.mem_of_getElem? (i := 11) rfl)))
  have ehi := eqv_i (Term.int_eval ((0 : Int32))) (Cond.before_iff.mp (hsets _ (List.mem_of_getElem? (i := 15) rfl)))
  have Shi : Sta s s.heap "java/lang/StringUTF16" "HI_BYTE_SHIFT" "I" (.int 0) := Sta.start ehi (Or.inl (hsets _ (List.mem_of_getElem? (i := 14) rfl)))
  have elo := eqv_i (Term.int_eval ((8 : Int32))) (Cond.before_iff.mp (hsets _ (List.mem_of_getElem? (i := 18) rfl)))
  have Slo : Sta s s.heap "java/lang/StringUTF16" "LO_BYTE_SHIFT" "I" (.int 8) := Sta.start elo (Or.inl (hsets _ (List.mem_of_getElem? (i := 17) rfl)))
  have hcw : Jvm.Lit.compactW.before #[(.int i0), (.int i1), (.int i2), (.int i3), (.int i4)] s = true := hsets _ (List.mem_of_getElem? (i := 2) rfl)
  have hCH : CHv s own_EL s.vm s.heap := CHv.start (own_EW hw) (fun p hp => own_held (hcalls.1) p hp) hcw (w_21 hw) (w_8 hw)
  obtain ⟨n, o, h1, h2, h3, _, L, rfl, ⟨rfl, N, _⟩, -, q1, q2, q3, hq⟩ := rm_law l s _ hw tables_1 i0 i1 i2 i3 i4 zc fm s.heap s.heap.size (Old.start s) Szc hzc Sfm rfm Sad Shi Slo p e ha hc hk s m _ below hf ((Spec.applies_iff_loose hf).mp happ).1 ⟨rfl, State.Warmed39.refl s, rfl, hCH, sf0⟩ trivial
  refine ⟨n, _, h1, h2, h3, hpost _ _ _ _ _ _ ⟨Cond.after_iff.mpr rfl, Cond.after_iff.mpr (eq_i res_at (Term.int_eval (1)) rfl), trivial⟩ ⟨q1, q2, q3, (hq.sift fun y hy => Or.inr (N y hy)).mono (by decide) (by decide)⟩⟩
theorem main_1_1 : Claimed_1_1 := comes_1 fun _ _ _ _ _ _ h hF => ⟨h.1, hF⟩
theorem main_1_2 : Claimed_1_2 := comes_1 fun _ _ _ _ _ _ h hF => ⟨h.2.1, hF⟩
end Jvm.Pilot.@@N@@
namespace Jvm.Pilot.@@N@@
open Jvm Jvm.ClassFile Sem Op Lib Jvm.Free Jvm.Stand Jvm.Pilot.@@N@@.Jvm.D
/-! MADE BY PROGRAM (witnessworld.py) out of the Statement's table words and the real class files: 21 classes; the members and pool entries that the words name. The judged class is class 1, her method 1. -/
namespace start1
open Jvm.ClassFile
def u (s : String) : CpInfo := .utf8 (stringToUtf16 s)
/-- a pool by its gaps: so many unusable entries, then the entry; so many at the end -/
def gap : Nat → List CpInfo → List CpInfo
  | 0, r => r
  | n + 1, r => .unusable :: gap n r
def poolList (es : List (Nat × CpInfo)) (last : Nat) : List CpInfo := es.foldr (fun e r => gap e.1 (e.2 :: r)) (gap last [])
def pool (es : List (Nat × CpInfo)) (last : Nat) : Array CpInfo := ⟨poolList es last⟩
def fileOf (pool : Array CpInfo) (this : Nat) (attrs : Array Attribute := #[]) (ms : Array MethodInfo := #[]) (fl : Nat := 33) (sup : Nat := 0) (ifs : Array Nat := #[]) (fds : Array FieldInfo := #[]) : ClassFile where
  minorVersion := 0
  majorVersion := 65
  constantPool := pool
  accessFlags := fl
  thisClass := this
  superClass := sup
  interfaces := ifs
  fields := fds
  methods := ms
  attributes := attrs
def plain (name : String) (sup : Option ClassId) : Class where
  name := name
  kind := .ordinary
  loader := none
  accessFlags := 33
  super := sup
  interfaces := #[]
  cf := none
  fields := #[]
  methods := #[]
  instanceTypes := #[]
  staticTypes := #[]
  resolved := #[]
  callSites := []
  init := .initialized
  statics := none
  mirror := none

def pool0 : Array CpInfo := pool [(5, u "<init>"), (0, u "()V"), (1, .class_ 10), (1, u "java/lang/Object")] 113

def k0c0 : Code := { maxStack := 0, maxLocals := 1, code := object_method_1_code, exceptionTable := #[], attributes := #[] }
def k0m0 : Method := { name := "<init>", desc := "()V", sig := { parameters := [], returnType := none }, accessFlags := 1, code := some k0c0 }
/-- java/lang/Object -/
def k0 : Class := { plain "java/lang/Object" none with
  accessFlags := 33
  interfaces := #[]
  cf := some (fileOf pool0 8 #[] #[{ accessFlags := 1, nameIndex := 5, descriptorIndex := 6, attributes := #[] }] 33 0 #[] #[])
  fields := #[]
  methods := #[k0m0]
  instanceTypes := #[]
  staticTypes := #[]
  resolved := Array.replicate 124 none
  statics := none }

def pool1 : Array CpInfo := pool [(2, .class_ 4), (1, u "java/lang/Object"), (0, u "<init>"), (0, u "()V"), (0, .integer 2147483647), (0, .methodref 9 10), (0, .class_ 11), (0, .nameAndType 12 13), (0, u "com/example/ullr/ullr/files/GlobIsGlobPinLaw"), (0, u "draw"), (0, u "(I)C"), (0, .class_ 15), (0, u "java/lang/String"), (0, .methodref 14 17), (0, .nameAndType 5 18), (0, u "([C)V"), (0, .methodref 9 20), (0, .nameAndType 21 22), (0, u "wild"), (0, u "(C)Z"), (0, .methodref 24 25), (0, .class_ 26), (0, .nameAndType 27 28), (0, u "com/example/ullr/ullr/files/Glob"), (0, u "isGlob"), (0, u "(Ljava/lang/String;)Z"), (0, .integer 65535), (2, u "law"), (0, u "(IIIII)Z")] 5

def k1m0 : Method := { name := "<init>", desc := "()V", sig := { parameters := [], returnType := none }, accessFlags := 1, code := none }
def k1c1 : Code := { maxStack := 4, maxLocals := 13, code := code, exceptionTable := #[], attributes := #[] }
def k1m1 : Method := { name := "law", desc := "(IIIII)Z", sig := { parameters := [.int, .int, .int, .int, .int], returnType := some .boolean }, accessFlags := 9, code := some k1c1 }
def k1c2 : Code := { maxStack := 2, maxLocals := 2, code := method_3_code, exceptionTable := #[], attributes := #[] }
def k1m2 : Method := { name := "draw", desc := "(I)C", sig := { parameters := [.int], returnType := some .char }, accessFlags := 10, code := some k1c2 }
def k1c3 : Code := { maxStack := 2, maxLocals := 1, code := method_4_code, exceptionTable := #[], attributes := #[] }
def k1m3 : Method := { name := "wild", desc := "(C)Z", sig := { parameters := [.char], returnType := some .boolean }, accessFlags := 10, code := some k1c3 }
/-- com/example/ullr/ullr/files/GlobIsGlobPinLaw -/
def k1 : Class := { plain "com/example/ullr/ullr/files/GlobIsGlobPinLaw" (some 0) with
  accessFlags := 49
  interfaces := #[]
  cf := some (fileOf pool1 9 #[] #[{ accessFlags := 1, nameIndex := 5, descriptorIndex := 6, attributes := #[] }, { accessFlags := 9, nameIndex := 32, descriptorIndex := 33, attributes := #[] }, { accessFlags := 10, nameIndex := 12, descriptorIndex := 13, attributes := #[] }, { accessFlags := 10, nameIndex := 21, descriptorIndex := 22, attributes := #[] }] 49 2 #[] #[])
  fields := #[]
  methods := #[k1m0, k1m1, k1m2, k1m3]
  instanceTypes := #[]
  staticTypes := #[]
  resolved := Array.replicate 39 none
  statics := none }

def pool2 : Array CpInfo := pool [(1, .class_ 2), (0, u "java/io/Serializable"), (0, .class_ 4), (0, u "java/lang/Object")] 2

/-- java/io/Serializable -/
def k2 : Class := { plain "java/io/Serializable" (some 0) with
  accessFlags := 1537
  interfaces := #[]
  cf := some (fileOf pool2 1 #[] #[] 1537 3 #[] #[])
  fields := #[]
  methods := #[]
  instanceTypes := #[]
  staticTypes := #[]
  resolved := Array.replicate 7 none
  statics := none }

def pool3 : Array CpInfo := pool [(1, .class_ 2), (0, u "java/lang/Comparable"), (0, .class_ 4), (0, u "java/lang/Object")] 7

/-- java/lang/Comparable -/
def k3 : Class := { plain "java/lang/Comparable" (some 0) with
  accessFlags := 1537
  interfaces := #[]
  cf := some (fileOf pool3 1 #[] #[] 1537 3 #[] #[])
  fields := #[]
  methods := #[]
  instanceTypes := #[]
  staticTypes := #[]
  resolved := Array.replicate 12 none
  statics := none }

def pool4 : Array CpInfo := pool [(2, .class_ 4), (1, u "java/lang/CharSequence"), (42, .class_ 48), (0, u "java/lang/CharSequence$1CodePointIterator"), (10, .class_ 60), (0, u "java/lang/CharSequence$1CharIterator"), (5, .class_ 67), (0, u "java/lang/Object")] 63

/-- java/lang/CharSequence -/
def k4 : Class := { plain "java/lang/CharSequence" (some 0) with
  accessFlags := 1537
  interfaces := #[]
  cf := some (fileOf pool4 2 #[.nestMembers #[47, 59]] #[] 1537 66 #[] #[])
  fields := #[]
  methods := #[]
  instanceTypes := #[]
  staticTypes := #[]
  resolved := Array.replicate 131 none
  statics := none }

def pool5 : Array CpInfo := pool [(1, .class_ 2), (0, u "java/lang/constant/Constable"), (0, .class_ 4), (0, u "java/lang/Object")] 6

/-- java/lang/constant/Constable -/
def k5 : Class := { plain "java/lang/constant/Constable" (some 0) with
  accessFlags := 1537
  interfaces := #[]
  cf := some (fileOf pool5 1 #[] #[] 1537 3 #[] #[])
  fields := #[]
  methods := #[]
  instanceTypes := #[]
  staticTypes := #[]
  resolved := Array.replicate 11 none
  statics := none }

def pool6 : Array CpInfo := pool [(1, .class_ 2), (0, u "java/lang/constant/ConstantDesc"), (0, .class_ 4), (0, u "java/lang/Object")] 32

/-- java/lang/constant/ConstantDesc -/
def k6 : Class := { plain "java/lang/constant/ConstantDesc" (some 0) with
  accessFlags := 1537
  interfaces := #[]
  cf := some (fileOf pool6 1 #[] #[] 1537 3 #[] #[])
  fields := #[]
  methods := #[]
  instanceTypes := #[]
  staticTypes := #[]
  resolved := Array.replicate 37 none
  statics := none }

def pool7 : Array CpInfo := pool [(1, .methodref 2 3), (0, .class_ 4), (0, .nameAndType 5 6), (0, u "java/lang/Object"), (0, u "<init>"), (0, u "()V"), (0, .string 8), (0, u ""), (0, .fieldref 10 11), (0, .class_ 12), (0, .nameAndType 13 14), (0, u "java/lang/String"), (0, u "value"), (0, u "[B"), (0, .fieldref 10 16), (0, .nameAndType 17 18), (0, u "coder"), (0, u "B"), (2, u "hash"), (0, u "I"), (2, u "hashIsZero"), (0, u "Z"), (0, .methodref 10 28), (0, .nameAndType 5 29), (0, u "([CIILjava/lang/Void;)V"), (8, .fieldref 10 39), (0, .nameAndType 40 26), (0, u "COMPACT_STRINGS"), (1, .class_ 44), (1, u "java/lang/StringUTF16"), (0, u "compress"), (1, .methodref 42 48), (0, .nameAndType 49 50), (0, u "coderFromArrayLen"), (0, u "([BI)B"), (56, .class_ 109), (1, u "java/lang/StringLatin1"), (32, u "()Z"), (34, .methodref 42 178), (0, .nameAndType 45 179), (0, u "([CII)[B"), (154, u "()I"), (0, .methodref 10 336), (0, .nameAndType 17 337), (0, u "()B"), (154, .methodref 10 493), (0, .nameAndType 494 142), (0, u "isLatin1"), (10, .methodref 10 506), (0, .nameAndType 507 334), (0, u "length"), (5, u "checkFromToIndex"), (9, u "checkBoundsBeginEnd"), (0, u "(III)V"), (50, .class_ 576), (0, u "java/lang/CharSequence"), (22, u "CASE_INSENSITIVE_ORDER"), (0, u "Ljava/util/Comparator;"), (32, .methodref 10 634), (0, .nameAndType 635 636), (0, u "indexOf"), (0, u "(II)I"), (0, .methodref 107 638), (0, .nameAndType 635 639), (0, u "([BIII)I"), (0, .methodref 42 638), (124, u "(I)I"), (244, u "([C)V"), (42, .fieldref 1054 1055), (0, .class_ 1056), (0, .nameAndType 1057 1058), (0, u "jdk/internal/util/Preconditions"), (0, u "SIOOBE_FORMATTER"), (0, u "Ljava/util/function/BiFunction;"), (3, .methodref 1054 1063), (0, .nameAndType 513 1064), (0, u "(IIILjava/util/function/BiFunction;)I"), (36, u "serialPersistentFields"), (0, u "[Ljava/io/ObjectStreamField;"), (0, .class_ 1104), (0, u "java/lang/String$CaseInsensitiveComparator"), (1, .class_ 1107), (0, u "java/io/Serializable"), (0, .class_ 1109), (0, u "java/lang/Comparable"), (0, .class_ 1111), (0, u "java/lang/constant/Constable"), (0, .class_ 1113), (0, u "java/lang/constant/ConstantDesc"), (2, u "serialVersionUID"), (0, u "J"), (3, u "REPL"), (0, u "C"), (2, u "LATIN1"), (1, u "UTF16")] 323

def k7m0 : Method := { name := "<init>", desc := "()V", sig := { parameters := [], returnType := none }, accessFlags := 1, code := none }
def k7c1 : Code := { maxStack := 5, maxLocals := 2, code := jdk_42_method_3_code, exceptionTable := #[], attributes := #[] }
def k7m1 : Method := { name := "<init>", desc := "([C)V", sig := { parameters := [(.array .char)], returnType := none }, accessFlags := 1, code := some k7c1 }
def k7c2 : Code := { maxStack := 2, maxLocals := 1, code := jdk_42_method_54_code, exceptionTable := #[], attributes := #[] }
def k7m2 : Method := { name := "length", desc := "()I", sig := { parameters := [], returnType := some .int }, accessFlags := 1, code := some k7c2 }
def k7c3 : Code := { maxStack := 3, maxLocals := 2, code := jdk_42_method_79_code, exceptionTable := #[], attributes := #[] }
def k7m3 : Method := { name := "indexOf", desc := "(I)I", sig := { parameters := [.int], returnType := some .int }, accessFlags := 1, code := some k7c3 }
def k7c4 : Code := { maxStack := 4, maxLocals := 3, code := jdk_42_method_80_code, exceptionTable := #[], attributes := #[] }
def k7m4 : Method := { name := "indexOf", desc := "(II)I", sig := { parameters := [.int, .int], returnType := some .int }, accessFlags := 1, code := some k7c4 }
def k7c5 : Code := { maxStack := 4, maxLocals := 6, code := jdk_42_method_149_code, exceptionTable := #[], attributes := #[] }
def k7m5 : Method := { name := "<init>", desc := "([CIILjava/lang/Void;)V", sig := { parameters := [(.array .char), .int, .int, (.object "java/lang/Void")], returnType := none }, accessFlags := 2, code := some k7c5 }
def k7c6 : Code := { maxStack := 1, maxLocals := 1, code := jdk_42_method_152_code, exceptionTable := #[], attributes := #[] }
def k7m6 : Method := { name := "coder", desc := "()B", sig := { parameters := [], returnType := some .byte }, accessFlags := 0, code := some k7c6 }
def k7c7 : Code := { maxStack := 1, maxLocals := 1, code := jdk_42_method_154_code, exceptionTable := #[], attributes := #[] }
def k7m7 : Method := { name := "isLatin1", desc := "()Z", sig := { parameters := [], returnType := some .boolean }, accessFlags := 0, code := some k7c7 }
def k7c8 : Code := { maxStack := 4, maxLocals := 3, code := jdk_42_method_158_code, exceptionTable := #[], attributes := #[] }
def k7m8 : Method := { name := "checkBoundsBeginEnd", desc := "(III)V", sig := { parameters := [.int, .int, .int], returnType := none }, accessFlags := 8, code := some k7c8 }
/-- java/lang/String -/
def k7 : Class := { plain "java/lang/String" (some 0) with
  accessFlags := 49
  interfaces := #[2, 3, 4, 5, 6]
  cf := some (fileOf pool7 10 #[.nestMembers #[1103]] #[{ accessFlags := 1, nameIndex := 5, descriptorIndex := 6, attributes := #[] }, { accessFlags := 1, nameIndex := 5, descriptorIndex := 1010, attributes := #[] }, { accessFlags := 1, nameIndex := 507, descriptorIndex := 334, attributes := #[] }, { accessFlags := 1, nameIndex := 635, descriptorIndex := 765, attributes := #[] }, { accessFlags := 1, nameIndex := 635, descriptorIndex := 636, attributes := #[] }, { accessFlags := 2, nameIndex := 5, descriptorIndex := 29, attributes := #[] }, { accessFlags := 0, nameIndex := 17, descriptorIndex := 337, attributes := #[] }, { accessFlags := 0, nameIndex := 494, descriptorIndex := 142, attributes := #[] }, { accessFlags := 8, nameIndex := 523, descriptorIndex := 524, attributes := #[] }] 49 2 #[1106, 1108, 575, 1110, 1112] #[{ accessFlags := 18, nameIndex := 13, descriptorIndex := 14, attributes := #[] }, { accessFlags := 18, nameIndex := 17, descriptorIndex := 18, attributes := #[] }, { accessFlags := 2, nameIndex := 21, descriptorIndex := 22, attributes := #[] }, { accessFlags := 2, nameIndex := 25, descriptorIndex := 26, attributes := #[] }, { accessFlags := 26, nameIndex := 1116, descriptorIndex := 1117, attributes := #[] }, { accessFlags := 24, nameIndex := 40, descriptorIndex := 26, attributes := #[] }, { accessFlags := 26, nameIndex := 1101, descriptorIndex := 1102, attributes := #[] }, { accessFlags := 26, nameIndex := 1121, descriptorIndex := 1122, attributes := #[] }, { accessFlags := 25, nameIndex := 599, descriptorIndex := 600, attributes := #[] }, { accessFlags := 24, nameIndex := 1125, descriptorIndex := 18, attributes := #[] }, { accessFlags := 24, nameIndex := 1127, descriptorIndex := 18, attributes := #[] }])
  fields := #[{ name := "value", type := (.array .byte), accessFlags := 18, slot := 0, constantValue := 0 }, { name := "coder", type := .byte, accessFlags := 18, slot := 1, constantValue := 0 }, { name := "hash", type := .int, accessFlags := 2, slot := 2, constantValue := 0 }, { name := "hashIsZero", type := .boolean, accessFlags := 2, slot := 3, constantValue := 0 }, { name := "serialVersionUID", type := .long, accessFlags := 26, slot := 0, constantValue := 0 }, { name := "COMPACT_STRINGS", type := .boolean, accessFlags := 24, slot := 1, constantValue := 0 }, { name := "serialPersistentFields", type := (.array (.object "java/io/ObjectStreamField")), accessFlags := 26, slot := 2, constantValue := 0 }, { name := "REPL", type := .char, accessFlags := 26, slot := 3, constantValue := 0 }, { name := "CASE_INSENSITIVE_ORDER", type := (.object "java/util/Comparator"), accessFlags := 25, slot := 4, constantValue := 0 }, { name := "LATIN1", type := .byte, accessFlags := 24, slot := 5, constantValue := 0 }, { name := "UTF16", type := .byte, accessFlags := 24, slot := 6, constantValue := 0 }]
  methods := #[k7m0, k7m1, k7m2, k7m3, k7m4, k7m5, k7m6, k7m7, k7m8]
  instanceTypes := #[(.array .byte), .byte, .int, .boolean]
  staticTypes := #[.long, .boolean, (.array (.object "java/io/ObjectStreamField")), .char, (.object "java/util/Comparator"), .byte, .byte]
  resolved := Array.replicate 1451 none
  statics := some 0 }

def pool8 : Array CpInfo := pool [(2, .class_ 4), (1, u "java/lang/Object"), (3, .class_ 10), (1, u "com/example/ullr/ullr/files/Glob"), (0, u "_text"), (0, u "Ljava/lang/String;"), (6, u "_parts"), (0, u "Ljava/util/List;"), (0, .methodref 22 23), (0, .class_ 24), (0, .nameAndType 25 26), (0, u "java/lang/String"), (0, u "indexOf"), (0, u "(I)I"), (42, .class_ 70), (0, u "com/example/ullr/ullr/files/Glob$Part"), (16, .class_ 89), (1, u "com/example/ullr/ullr/files/Glob$Kind"), (37, u "isGlob"), (0, u "(Ljava/lang/String;)Z")] 28

def k8c0 : Code := { maxStack := 2, maxLocals := 1, code := prog_20_method_2_code, exceptionTable := #[], attributes := #[] }
def k8m0 : Method := { name := "isGlob", desc := "(Ljava/lang/String;)Z", sig := { parameters := [(.object "java/lang/String")], returnType := some .boolean }, accessFlags := 9, code := some k8c0 }
/-- com/example/ullr/ullr/files/Glob -/
def k8 : Class := { plain "com/example/ullr/ullr/files/Glob" (some 0) with
  accessFlags := 49
  interfaces := #[]
  cf := some (fileOf pool8 8 #[.nestMembers #[69, 87]] #[{ accessFlags := 9, nameIndex := 127, descriptorIndex := 128, attributes := #[] }] 49 2 #[] #[{ accessFlags := 18, nameIndex := 11, descriptorIndex := 12, attributes := #[] }, { accessFlags := 18, nameIndex := 19, descriptorIndex := 20, attributes := #[] }])
  fields := #[{ name := "_text", type := (.object "java/lang/String"), accessFlags := 18, slot := 0, constantValue := 0 }, { name := "_parts", type := (.object "java/util/List"), accessFlags := 18, slot := 1, constantValue := 0 }]
  methods := #[k8m0]
  instanceTypes := #[(.object "java/lang/String"), (.object "java/util/List")]
  staticTypes := #[]
  resolved := Array.replicate 157 none
  statics := none }

def pool9 : Array CpInfo := pool [(4, .class_ 6), (1, u "java/lang/Object"), (0, u "<init>"), (0, u "()V"), (5, .class_ 16), (1, u "java/lang/StringLatin1"), (21, .methodref 39 40), (0, .class_ 41), (0, .nameAndType 42 43), (0, u "java/lang/Math"), (0, u "min"), (0, u "(II)I"), (44, .methodref 14 89), (0, .nameAndType 90 91), (0, u "canEncode"), (0, u "(I)Z"), (0, .methodref 39 93), (0, .nameAndType 94 43), (0, u "max"), (0, .methodref 14 96), (0, .nameAndType 97 98), (0, u "indexOfChar"), (0, u "([BIII)I"), (2, u "indexOf"), (19, u "$assertionsDisabled"), (0, u "Z"), (98, .class_ 223), (1, u "java/lang/StringLatin1$LinesSpliterator"), (166, .class_ 391), (0, u "java/lang/StringLatin1$CharsSpliterator")] 3

def k9m0 : Method := { name := "<init>", desc := "()V", sig := { parameters := [], returnType := none }, accessFlags := 0, code := none }
def k9c1 : Code := { maxStack := 2, maxLocals := 1, code := jdk_43_method_4_code, exceptionTable := #[], attributes := #[] }
def k9m1 : Method := { name := "canEncode", desc := "(I)Z", sig := { parameters := [.int], returnType := some .boolean }, accessFlags := 9, code := some k9c1 }
def k9c2 : Code := { maxStack := 4, maxLocals := 4, code := jdk_43_method_22_code, exceptionTable := #[], attributes := #[] }
def k9m2 : Method := { name := "indexOf", desc := "([BIII)I", sig := { parameters := [(.array .byte), .int, .int, .int], returnType := some .int }, accessFlags := 9, code := some k9c2 }
def k9c3 : Code := { maxStack := 2, maxLocals := 6, code := jdk_43_method_23_code, exceptionTable := #[], attributes := #[] }
def k9m3 : Method := { name := "indexOfChar", desc := "([BIII)I", sig := { parameters := [(.array .byte), .int, .int, .int], returnType := some .int }, accessFlags := 10, code := some k9c3 }
/-- java/lang/StringLatin1 -/
def k9 : Class := { plain "java/lang/StringLatin1" (some 0) with
  accessFlags := 48
  interfaces := #[]
  cf := some (fileOf pool9 14 #[.nestMembers #[390, 221]] #[{ accessFlags := 0, nameIndex := 7, descriptorIndex := 8, attributes := #[] }, { accessFlags := 9, nameIndex := 90, descriptorIndex := 91, attributes := #[] }, { accessFlags := 9, nameIndex := 101, descriptorIndex := 98, attributes := #[] }, { accessFlags := 10, nameIndex := 97, descriptorIndex := 98, attributes := #[] }] 48 4 #[] #[{ accessFlags := 4120, nameIndex := 121, descriptorIndex := 122, attributes := #[] }])
  fields := #[{ name := "$assertionsDisabled", type := .boolean, accessFlags := 4120, slot := 0, constantValue := 0 }]
  methods := #[k9m0, k9m1, k9m2, k9m3]
  instanceTypes := #[]
  staticTypes := #[.boolean]
  resolved := Array.replicate 395 none
  statics := none }

def pool10 : Array CpInfo := pool [(1, .class_ 2), (0, u "java/lang/Math"), (1, .class_ 6), (1, u "java/lang/Object"), (0, u "<init>"), (0, u "()V"), (89, .class_ 100), (1, u "java/lang/Math$RandomNumberGeneratorHolder"), (71, u "negativeZeroFloatBits"), (0, u "J"), (2, u "negativeZeroDoubleBits"), (21, u "max"), (2, u "min"), (43, u "$assertionsDisabled"), (0, u "Z"), (88, u "(II)I"), (2, u "twoToTheDoubleScaleDown"), (0, u "D"), (4, u "twoToTheDoubleScaleUp"), (9, u "E"), (3, u "PI"), (2, u "TAU"), (2, u "DEGREES_TO_RADIANS"), (0, u "RADIANS_TO_DEGREES")] 94

def k10m0 : Method := { name := "<init>", desc := "()V", sig := { parameters := [], returnType := none }, accessFlags := 2, code := none }
def k10c1 : Code := { maxStack := 2, maxLocals := 2, code := jdk_29_method_65_code, exceptionTable := #[], attributes := #[] }
def k10m1 : Method := { name := "max", desc := "(II)I", sig := { parameters := [.int, .int], returnType := some .int }, accessFlags := 9, code := some k10c1 }
def k10c2 : Code := { maxStack := 2, maxLocals := 2, code := jdk_29_method_69_code, exceptionTable := #[], attributes := #[] }
def k10m2 : Method := { name := "min", desc := "(II)I", sig := { parameters := [.int, .int], returnType := some .int }, accessFlags := 9, code := some k10c2 }
/-- java/lang/Math -/
def k10 : Class := { plain "java/lang/Math" (some 0) with
  accessFlags := 49
  interfaces := #[]
  cf := some (fileOf pool10 1 #[.nestMembers #[98]] #[{ accessFlags := 2, nameIndex := 7, descriptorIndex := 8, attributes := #[] }, { accessFlags := 9, nameIndex := 198, descriptorIndex := 335, attributes := #[] }, { accessFlags := 9, nameIndex := 201, descriptorIndex := 335, attributes := #[] }] 49 4 #[] #[{ accessFlags := 25, nameIndex := 354, descriptorIndex := 339, attributes := #[] }, { accessFlags := 25, nameIndex := 358, descriptorIndex := 339, attributes := #[] }, { accessFlags := 25, nameIndex := 361, descriptorIndex := 339, attributes := #[] }, { accessFlags := 26, nameIndex := 364, descriptorIndex := 339, attributes := #[] }, { accessFlags := 26, nameIndex := 365, descriptorIndex := 339, attributes := #[] }, { accessFlags := 26, nameIndex := 172, descriptorIndex := 173, attributes := #[] }, { accessFlags := 26, nameIndex := 176, descriptorIndex := 173, attributes := #[] }, { accessFlags := 8, nameIndex := 344, descriptorIndex := 339, attributes := #[] }, { accessFlags := 8, nameIndex := 338, descriptorIndex := 339, attributes := #[] }, { accessFlags := 4120, nameIndex := 245, descriptorIndex := 246, attributes := #[] }])
  fields := #[{ name := "E", type := .double, accessFlags := 25, slot := 0, constantValue := 0 }, { name := "PI", type := .double, accessFlags := 25, slot := 1, constantValue := 0 }, { name := "TAU", type := .double, accessFlags := 25, slot := 2, constantValue := 0 }, { name := "DEGREES_TO_RADIANS", type := .double, accessFlags := 26, slot := 3, constantValue := 0 }, { name := "RADIANS_TO_DEGREES", type := .double, accessFlags := 26, slot := 4, constantValue := 0 }, { name := "negativeZeroFloatBits", type := .long, accessFlags := 26, slot := 5, constantValue := 0 }, { name := "negativeZeroDoubleBits", type := .long, accessFlags := 26, slot := 6, constantValue := 0 }, { name := "twoToTheDoubleScaleUp", type := .double, accessFlags := 8, slot := 7, constantValue := 0 }, { name := "twoToTheDoubleScaleDown", type := .double, accessFlags := 8, slot := 8, constantValue := 0 }, { name := "$assertionsDisabled", type := .boolean, accessFlags := 4120, slot := 9, constantValue := 0 }]
  methods := #[k10m0, k10m1, k10m2]
  instanceTypes := #[]
  staticTypes := #[.double, .double, .double, .double, .double, .long, .long, .double, .double, .boolean]
  resolved := Array.replicate 460 none
  statics := none }

def pool11 : Array CpInfo := pool [(3, .class_ 4), (0, u "java/lang/String"), (1, .class_ 8), (1, u "java/lang/Object"), (0, u "<init>"), (0, u "()V"), (0, .methodref 12 13), (0, .class_ 14), (0, .nameAndType 15 16), (0, u "java/lang/StringUTF16"), (0, u "newBytesLength"), (0, u "(I)I"), (3, .integer 1073741823), (23, .fieldref 12 45), (0, .nameAndType 46 47), (0, u "$assertionsDisabled"), (0, u "Z"), (0, .methodref 12 49), (0, .nameAndType 50 51), (0, u "length"), (0, u "([B)I"), (7, .fieldref 12 60), (0, .nameAndType 61 62), (0, u "HI_BYTE_SHIFT"), (0, u "I"), (0, .fieldref 12 64), (0, .nameAndType 65 62), (0, u "LO_BYTE_SHIFT"), (5, .methodref 12 72), (0, .nameAndType 73 74), (0, u "getChar"), (0, u "([BI)C"), (21, .methodref 12 97), (0, .nameAndType 98 99), (0, u "checkBoundsBeginEnd"), (0, u "(II[B)V"), (7, .methodref 12 108), (0, .nameAndType 109 110), (0, u "newBytesFor"), (0, u "(I)[B"), (0, .methodref 12 112), (0, .nameAndType 113 114), (0, u "putChar"), (0, u "([BII)V"), (0, .methodref 12 116), (0, .nameAndType 117 118), (0, u "compress"), (0, u "([CI[BII)I"), (0, .methodref 12 120), (0, .nameAndType 121 122), (0, u "toBytes"), (0, u "([CII)[B"), (60, .methodref 184 185), (0, .class_ 186), (0, .nameAndType 187 188), (0, u "java/lang/Math"), (0, u "min"), (0, u "(II)I"), (35, .methodref 184 225), (0, .nameAndType 226 188), (0, u "max"), (0, .integer 65536), (0, .methodref 12 229), (0, .nameAndType 230 231), (0, u "indexOfChar"), (0, u "([BIII)I"), (9, .methodref 3 242), (0, .nameAndType 98 243), (0, u "(III)V"), (0, .methodref 12 245), (0, .nameAndType 246 231), (0, u "indexOfCharUnsafe"), (14, u "coderFromArrayLen"), (0, u "([BI)B"), (5, u "indexOf"), (100, .class_ 371), (1, u "java/lang/StringUTF16$LinesSpliterator"), (58, u "MAX_LENGTH"), (196, .class_ 628), (0, u "java/lang/StringUTF16$CodePointsSpliterator"), (0, .class_ 630), (0, u "java/lang/StringUTF16$CharsSpliterator")] 4

def k11m0 : Method := { name := "<init>", desc := "()V", sig := { parameters := [], returnType := none }, accessFlags := 0, code := none }
def k11c1 : Code := { maxStack := 1, maxLocals := 1, code := jdk_52_method_2_code, exceptionTable := #[], attributes := #[] }
def k11m1 : Method := { name := "newBytesFor", desc := "(I)[B", sig := { parameters := [.int], returnType := some (.array .byte) }, accessFlags := 9, code := some k11c1 }
def k11c2 : Code := { maxStack := 4, maxLocals := 1, code := jdk_52_method_3_code, exceptionTable := #[], attributes := #[] }
def k11m2 : Method := { name := "newBytesLength", desc := "(I)I", sig := { parameters := [.int], returnType := some .int }, accessFlags := 9, code := some k11c2 }
def k11c3 : Code := { maxStack := 4, maxLocals := 3, code := jdk_52_method_4_code, exceptionTable := #[], attributes := #[] }
def k11m3 : Method := { name := "putChar", desc := "([BII)V", sig := { parameters := [(.array .byte), .int, .int], returnType := none }, accessFlags := 8, code := some k11c3 }
def k11c4 : Code := { maxStack := 3, maxLocals := 2, code := jdk_52_method_5_code, exceptionTable := #[], attributes := #[] }
def k11m4 : Method := { name := "getChar", desc := "([BI)C", sig := { parameters := [(.array .byte), .int], returnType := some .char }, accessFlags := 8, code := some k11c4 }
def k11c5 : Code := { maxStack := 2, maxLocals := 1, code := jdk_52_method_6_code, exceptionTable := #[], attributes := #[] }
def k11m5 : Method := { name := "length", desc := "([B)I", sig := { parameters := [(.array .byte)], returnType := some .int }, accessFlags := 9, code := some k11c5 }
def k11c6 : Code := { maxStack := 4, maxLocals := 5, code := jdk_52_method_14_code, exceptionTable := #[], attributes := #[] }
def k11m6 : Method := { name := "toBytes", desc := "([CII)[B", sig := { parameters := [(.array .char), .int, .int], returnType := some (.array .byte) }, accessFlags := 9, code := some k11c6 }
def k11c7 : Code := { maxStack := 2, maxLocals := 2, code := jdk_52_method_15_code, exceptionTable := #[], attributes := #[] }
def k11m7 : Method := { name := "coderFromArrayLen", desc := "([BI)B", sig := { parameters := [(.array .byte), .int], returnType := some .byte }, accessFlags := 8, code := some k11c7 }
def k11c8 : Code := { maxStack := 5, maxLocals := 6, code := jdk_52_method_16_code, exceptionTable := #[], attributes := #[] }
def k11m8 : Method := { name := "compress", desc := "([CII)[B", sig := { parameters := [(.array .char), .int, .int], returnType := some (.array .byte) }, accessFlags := 9, code := some k11c8 }
def k11c9 : Code := { maxStack := 3, maxLocals := 7, code := jdk_52_method_21_code, exceptionTable := #[], attributes := #[] }
def k11m9 : Method := { name := "compress", desc := "([CI[BII)I", sig := { parameters := [(.array .char), .int, (.array .byte), .int, .int], returnType := some .int }, accessFlags := 9, code := some k11c9 }
def k11c10 : Code := { maxStack := 4, maxLocals := 4, code := jdk_52_method_40_code, exceptionTable := #[], attributes := #[] }
def k11m10 : Method := { name := "indexOf", desc := "([BIII)I", sig := { parameters := [(.array .byte), .int, .int, .int], returnType := some .int }, accessFlags := 9, code := some k11c10 }
def k11c11 : Code := { maxStack := 4, maxLocals := 4, code := jdk_52_method_47_code, exceptionTable := #[], attributes := #[] }
def k11m11 : Method := { name := "indexOfChar", desc := "([BIII)I", sig := { parameters := [(.array .byte), .int, .int, .int], returnType := some .int }, accessFlags := 10, code := some k11c11 }
def k11c12 : Code := { maxStack := 2, maxLocals := 5, code := jdk_52_method_48_code, exceptionTable := #[], attributes := #[] }
def k11m12 : Method := { name := "indexOfCharUnsafe", desc := "([BIII)I", sig := { parameters := [(.array .byte), .int, .int, .int], returnType := some .int }, accessFlags := 10, code := some k11c12 }
def k11c13 : Code := { maxStack := 3, maxLocals := 3, code := jdk_52_method_93_code, exceptionTable := #[], attributes := #[] }
def k11m13 : Method := { name := "checkBoundsBeginEnd", desc := "(II[B)V", sig := { parameters := [.int, .int, (.array .byte)], returnType := none }, accessFlags := 9, code := some k11c13 }
/-- java/lang/StringUTF16 -/
def k11 : Class := { plain "java/lang/StringUTF16" (some 0) with
  accessFlags := 48
  interfaces := #[]
  cf := some (fileOf pool11 12 #[.nestMembers #[627, 629, 369]] #[{ accessFlags := 0, nameIndex := 9, descriptorIndex := 10, attributes := #[] }, { accessFlags := 9, nameIndex := 109, descriptorIndex := 110, attributes := #[] }, { accessFlags := 9, nameIndex := 15, descriptorIndex := 16, attributes := #[] }, { accessFlags := 8, nameIndex := 113, descriptorIndex := 114, attributes := #[] }, { accessFlags := 8, nameIndex := 73, descriptorIndex := 74, attributes := #[] }, { accessFlags := 9, nameIndex := 50, descriptorIndex := 51, attributes := #[] }, { accessFlags := 9, nameIndex := 121, descriptorIndex := 122, attributes := #[] }, { accessFlags := 8, nameIndex := 261, descriptorIndex := 262, attributes := #[] }, { accessFlags := 9, nameIndex := 117, descriptorIndex := 122, attributes := #[] }, { accessFlags := 9, nameIndex := 117, descriptorIndex := 118, attributes := #[] }, { accessFlags := 9, nameIndex := 268, descriptorIndex := 231, attributes := #[] }, { accessFlags := 10, nameIndex := 230, descriptorIndex := 231, attributes := #[] }, { accessFlags := 10, nameIndex := 246, descriptorIndex := 231, attributes := #[] }, { accessFlags := 9, nameIndex := 98, descriptorIndex := 99, attributes := #[] }] 48 6 #[] #[{ accessFlags := 26, nameIndex := 61, descriptorIndex := 62, attributes := #[] }, { accessFlags := 26, nameIndex := 65, descriptorIndex := 62, attributes := #[] }, { accessFlags := 24, nameIndex := 430, descriptorIndex := 62, attributes := #[] }, { accessFlags := 4120, nameIndex := 46, descriptorIndex := 47, attributes := #[] }])
  fields := #[{ name := "HI_BYTE_SHIFT", type := .int, accessFlags := 26, slot := 0, constantValue := 0 }, { name := "LO_BYTE_SHIFT", type := .int, accessFlags := 26, slot := 1, constantValue := 0 }, { name := "MAX_LENGTH", type := .int, accessFlags := 24, slot := 2, constantValue := 0 }, { name := "$assertionsDisabled", type := .boolean, accessFlags := 4120, slot := 3, constantValue := 0 }]
  methods := #[k11m0, k11m1, k11m2, k11m3, k11m4, k11m5, k11m6, k11m7, k11m8, k11m9, k11m10, k11m11, k11m12, k11m13]
  instanceTypes := #[]
  staticTypes := #[.int, .int, .int, .boolean]
  resolved := Array.replicate 635 none
  statics := some 1 }

def pool12 : Array CpInfo := pool [(2, .class_ 4), (1, u "java/lang/Object"), (0, u "<init>"), (0, u "()V"), (17, .class_ 26), (1, u "jdk/internal/util/Preconditions"), (20, u "checkFromToIndex"), (7, .class_ 56), (0, u "jdk/internal/util/Preconditions$4"), (57, .class_ 115), (0, u "jdk/internal/util/Preconditions$1"), (7, u "SIOOBE_FORMATTER"), (0, u "Ljava/util/function/BiFunction;"), (0, .class_ 126), (0, u "jdk/internal/util/Preconditions$2"), (3, u "AIOOBE_FORMATTER"), (0, .class_ 132), (0, u "jdk/internal/util/Preconditions$3"), (3, u "IOOBE_FORMATTER"), (46, u "(IIILjava/util/function/BiFunction;)I")] 10

def k12m0 : Method := { name := "<init>", desc := "()V", sig := { parameters := [], returnType := none }, accessFlags := 1, code := none }
def k12c1 : Code := { maxStack := 4, maxLocals := 4, code := jdk_41_method_12_code, exceptionTable := #[], attributes := #[] }
def k12m1 : Method := { name := "checkFromToIndex", desc := "(IIILjava/util/function/BiFunction;)I", sig := { parameters := [.int, .int, .int, (.object "java/util/function/BiFunction")], returnType := some .int }, accessFlags := 9, code := some k12c1 }
/-- jdk/internal/util/Preconditions -/
def k12 : Class := { plain "jdk/internal/util/Preconditions" (some 0) with
  accessFlags := 33
  interfaces := #[]
  cf := some (fileOf pool12 24 #[.nestMembers #[55, 131, 125, 114]] #[{ accessFlags := 1, nameIndex := 5, descriptorIndex := 6, attributes := #[] }, { accessFlags := 9, nameIndex := 47, descriptorIndex := 183, attributes := #[] }] 33 2 #[] #[{ accessFlags := 25, nameIndex := 123, descriptorIndex := 124, attributes := #[] }, { accessFlags := 25, nameIndex := 130, descriptorIndex := 124, attributes := #[] }, { accessFlags := 25, nameIndex := 136, descriptorIndex := 124, attributes := #[] }])
  fields := #[{ name := "SIOOBE_FORMATTER", type := (.object "java/util/function/BiFunction"), accessFlags := 25, slot := 0, constantValue := 0 }, { name := "AIOOBE_FORMATTER", type := (.object "java/util/function/BiFunction"), accessFlags := 25, slot := 1, constantValue := 0 }, { name := "IOOBE_FORMATTER", type := (.object "java/util/function/BiFunction"), accessFlags := 25, slot := 2, constantValue := 0 }]
  methods := #[k12m0, k12m1]
  instanceTypes := #[]
  staticTypes := #[(.object "java/util/function/BiFunction"), (.object "java/util/function/BiFunction"), (.object "java/util/function/BiFunction")]
  resolved := Array.replicate 194 none
  statics := some 2 }

def pool13 : Array CpInfo := pool [(9, u "<init>"), (6, .class_ 18), (1, u "java/lang/Object"), (0, u "()V"), (1, .class_ 23), (1, u "jdk/internal/util/ArraysSupport"), (0, u "LOG2_ARRAY_LONG_INDEX_SCALE"), (0, u "I"), (2, u "U"), (0, u "Ljdk/internal/misc/Unsafe;"), (8, u "BIG_ENDIAN"), (0, u "Z"), (8, u "LOG2_BYTE_BIT_SIZE"), (4, u "LOG2_ARRAY_INT_INDEX_SCALE"), (54, u "JLA"), (0, u "Ljdk/internal/access/JavaLangAccess;"), (11, u "LOG2_ARRAY_BOOLEAN_INDEX_SCALE"), (9, u "LOG2_ARRAY_BYTE_INDEX_SCALE"), (5, u "LOG2_ARRAY_CHAR_INDEX_SCALE"), (5, u "LOG2_ARRAY_SHORT_INDEX_SCALE"), (18, u "LOG2_ARRAY_FLOAT_INDEX_SCALE"), (24, u "LOG2_ARRAY_DOUBLE_INDEX_SCALE"), (89, u "T_BOOLEAN"), (2, u "T_CHAR"), (1, u "T_FLOAT"), (1, u "T_DOUBLE"), (1, u "T_BYTE"), (1, u "T_SHORT"), (1, u "T_INT"), (1, u "T_LONG"), (1, u "SOFT_MAX_ARRAY_LENGTH")] 83

def k13m0 : Method := { name := "<init>", desc := "()V", sig := { parameters := [], returnType := none }, accessFlags := 2, code := none }
/-- jdk/internal/util/ArraysSupport -/
def k13 : Class := { plain "jdk/internal/util/ArraysSupport" (some 0) with
  accessFlags := 33
  interfaces := #[]
  cf := some (fileOf pool13 21 #[] #[{ accessFlags := 2, nameIndex := 9, descriptorIndex := 19, attributes := #[] }] 33 16 #[] #[{ accessFlags := 24, nameIndex := 28, descriptorIndex := 29, attributes := #[] }, { accessFlags := 26, nameIndex := 38, descriptorIndex := 39, attributes := #[] }, { accessFlags := 25, nameIndex := 121, descriptorIndex := 25, attributes := #[] }, { accessFlags := 25, nameIndex := 131, descriptorIndex := 25, attributes := #[] }, { accessFlags := 25, nameIndex := 137, descriptorIndex := 25, attributes := #[] }, { accessFlags := 25, nameIndex := 143, descriptorIndex := 25, attributes := #[] }, { accessFlags := 25, nameIndex := 53, descriptorIndex := 25, attributes := #[] }, { accessFlags := 25, nameIndex := 24, descriptorIndex := 25, attributes := #[] }, { accessFlags := 25, nameIndex := 162, descriptorIndex := 25, attributes := #[] }, { accessFlags := 25, nameIndex := 187, descriptorIndex := 25, attributes := #[] }, { accessFlags := 26, nameIndex := 48, descriptorIndex := 25, attributes := #[] }, { accessFlags := 25, nameIndex := 277, descriptorIndex := 25, attributes := #[] }, { accessFlags := 25, nameIndex := 280, descriptorIndex := 25, attributes := #[] }, { accessFlags := 25, nameIndex := 282, descriptorIndex := 25, attributes := #[] }, { accessFlags := 25, nameIndex := 284, descriptorIndex := 25, attributes := #[] }, { accessFlags := 25, nameIndex := 286, descriptorIndex := 25, attributes := #[] }, { accessFlags := 25, nameIndex := 288, descriptorIndex := 25, attributes := #[] }, { accessFlags := 25, nameIndex := 290, descriptorIndex := 25, attributes := #[] }, { accessFlags := 25, nameIndex := 292, descriptorIndex := 25, attributes := #[] }, { accessFlags := 26, nameIndex := 108, descriptorIndex := 109, attributes := #[] }, { accessFlags := 25, nameIndex := 294, descriptorIndex := 25, attributes := #[] }])
  fields := #[{ name := "U", type := (.object "jdk/internal/misc/Unsafe"), accessFlags := 24, slot := 0, constantValue := 0 }, { name := "BIG_ENDIAN", type := .boolean, accessFlags := 26, slot := 1, constantValue := 0 }, { name := "LOG2_ARRAY_BOOLEAN_INDEX_SCALE", type := .int, accessFlags := 25, slot := 2, constantValue := 0 }, { name := "LOG2_ARRAY_BYTE_INDEX_SCALE", type := .int, accessFlags := 25, slot := 3, constantValue := 0 }, { name := "LOG2_ARRAY_CHAR_INDEX_SCALE", type := .int, accessFlags := 25, slot := 4, constantValue := 0 }, { name := "LOG2_ARRAY_SHORT_INDEX_SCALE", type := .int, accessFlags := 25, slot := 5, constantValue := 0 }, { name := "LOG2_ARRAY_INT_INDEX_SCALE", type := .int, accessFlags := 25, slot := 6, constantValue := 0 }, { name := "LOG2_ARRAY_LONG_INDEX_SCALE", type := .int, accessFlags := 25, slot := 7, constantValue := 0 }, { name := "LOG2_ARRAY_FLOAT_INDEX_SCALE", type := .int, accessFlags := 25, slot := 8, constantValue := 0 }, { name := "LOG2_ARRAY_DOUBLE_INDEX_SCALE", type := .int, accessFlags := 25, slot := 9, constantValue := 0 }, { name := "LOG2_BYTE_BIT_SIZE", type := .int, accessFlags := 26, slot := 10, constantValue := 0 }, { name := "T_BOOLEAN", type := .int, accessFlags := 25, slot := 11, constantValue := 0 }, { name := "T_CHAR", type := .int, accessFlags := 25, slot := 12, constantValue := 0 }, { name := "T_FLOAT", type := .int, accessFlags := 25, slot := 13, constantValue := 0 }, { name := "T_DOUBLE", type := .int, accessFlags := 25, slot := 14, constantValue := 0 }, { name := "T_BYTE", type := .int, accessFlags := 25, slot := 15, constantValue := 0 }, { name := "T_SHORT", type := .int, accessFlags := 25, slot := 16, constantValue := 0 }, { name := "T_INT", type := .int, accessFlags := 25, slot := 17, constantValue := 0 }, { name := "T_LONG", type := .int, accessFlags := 25, slot := 18, constantValue := 0 }, { name := "JLA", type := (.object "jdk/internal/access/JavaLangAccess"), accessFlags := 26, slot := 19, constantValue := 0 }, { name := "SOFT_MAX_ARRAY_LENGTH", type := .int, accessFlags := 25, slot := 20, constantValue := 0 }]
  methods := #[k13m0]
  instanceTypes := #[]
  staticTypes := #[(.object "jdk/internal/misc/Unsafe"), .boolean, .int, .int, .int, .int, .int, .int, .int, .int, .int, .int, .int, .int, .int, .int, .int, .int, .int, (.object "jdk/internal/access/JavaLangAccess"), .int]
  resolved := Array.replicate 378 none
  statics := none }

def pool14 : Array CpInfo := pool [(1, u "java/lang/Cloneable"), (0, .class_ 1), (0, u "java/lang/Object"), (0, .class_ 3)] 3

/-- java/lang/Cloneable -/
def k14 : Class := { plain "java/lang/Cloneable" (some 0) with
  accessFlags := 1537
  interfaces := #[]
  cf := some (fileOf pool14 2 #[] #[] 1537 4 #[] #[])
  fields := #[]
  methods := #[]
  instanceTypes := #[]
  staticTypes := #[]
  resolved := Array.replicate 8 none
  statics := none }

/-- the primitive byte -/
def k15 : Class := { plain "byte" none with kind := .primitive 'B', accessFlags := 0x411 }
/-- [B -/
def k16 : Class := { plain "[B" (some 0) with kind := .array 15 .byte, interfaces := #[14, 2], accessFlags := 1041 }

/-- the primitive char -/
def k17 : Class := { plain "char" none with kind := .primitive 'C', accessFlags := 0x411 }
/-- [C -/
def k18 : Class := { plain "[C" (some 0) with kind := .array 17 .char, interfaces := #[14, 2], accessFlags := 1041 }

/-- the primitive int -/
def k19 : Class := { plain "int" none with kind := .primitive 'I', accessFlags := 0x411 }
/-- [I -/
def k20 : Class := { plain "[I" (some 0) with kind := .array 19 .int, interfaces := #[14, 2], accessFlags := 1041 }

def heap : Heap := #[{ cls := 7, slots := #[.long 0, .int 1, .null, .int 0, .null, .int 0, .int 0], vm := .statics 7 },
  { cls := 11, slots := #[.int 0, .int 8, .int 0, .int 1], vm := .statics 11 },
  { cls := 12, slots := #[.null, .null, .null], vm := .statics 12 }]
def classes : Array Class := #[k0, k1, k2, k3, k4, k5, k6, k7, k8, k9, k10, k11, k12, k13, k14, k15, k16, k17, k18, k19, k20]
def interned : List (Array UInt16 × Addr) := []
def slotsUsed : Nat := 14
def theMethod : MethodId := ⟨1, 1⟩
def args0 : Array Value := #[.int 5, .int 5, .int 5, .int 5, .int 5]
def aboutOver (below : List Frame) : State where
  vm := { classes := classes, interned := interned.toArray }
  heap := heap
  slotsUsed := slotsUsed
  threads := #[{ frames := .invoking theMethod args0 :: below }]
def below0 : List Frame := [.native { method := ⟨0, 0⟩, args := #[] }]
def about1 : State := aboutOver below0
def p0 : Program := .bare "" "" ""
def e0 : Env := launch0.env 0 0 0
theorem w_frames : about1.frames = Frame.invoking theMethod args0 :: below0 := rfl
set_option maxRecDepth 65536 in
theorem w_args : argsFit about1.vm theMethod args0 = true := by decide +kernel
set_option maxRecDepth 65536 in
theorem w_heap : heapFits about1 = true := by decide +kernel
set_option maxRecDepth 65536 in
theorem w_runnable : about1.curStatus? = some .runnable := by decide +kernel
set_option maxRecDepth 65536 in
theorem w_alone : about1.alone = true := by decide +kernel
set_option maxRecDepth 65536 in
theorem w_named : about1.methodNamed? x = some theMethod := by decide +kernel
set_option maxRecDepth 65536 in
theorem w_hears : about1.hears theMethod below0 = true := by decide +kernel
set_option maxRecDepth 65536 in
theorem w_ripe : about1.ripe theMethod args0 below0 = true := by decide +kernel
theorem w_running : about1.status = .running := rfl
set_option maxRecDepth 65536 in
theorem w_room : about1.hasRoom e0.platform room_1 = true :=
  launch0.hasRoom_least _ room_1 (by decide +kernel) (by decide +kernel) (by decide +kernel) (by decide +kernel) (by decide +kernel) (by decide +kernel)
theorem allAtoms_all (ts : List Jvm.Cond) (a : Array Jvm.Value) (st : Jvm.State) : (allAtoms ts).before a st = ts.all (fun c => c.before a st) := by
  induction ts with
  | nil => rfl
  | cons c t ih =>
    show (Jvm.Cond.and c (allAtoms t)).before a st = _
    rw [Jvm.Cond.before_and, ih, List.all_cons]
def words1 : List Jvm.Cond := Jvm.Cond.code x code maxLocals ret :: tables_1
/-- a 'code' word, met by the world's own term for the bytes: nothing is compared byte by byte -/
theorem code_word {y : MethodName} {bytes : ByteArray} {mx : Nat} {rt : Option FieldType} {a : Array Value} {s : State} {m : MethodId} {meth : Method} {c : Code} (h1 : s.methodNamed? y = some m) (h2 : s.vm.method? m = some meth) (h3 : meth.code = some c) (h4 : c.code = bytes)
    (h5 : (c.maxLocals == mx && c.exceptionTable.isEmpty && decide (c.maxStack ≤ mostOperands) && decide (meth.sig.returnType = rt) && !meth.locks && decide (parseMethodDescriptor y.desc = some meth.sig)) = true) : (Jvm.Cond.code y bytes mx rt).before a s = true := by
  simp only [Bool.and_eq_true, beq_iff_eq, Bool.not_eq_true', decide_eq_true_eq] at h5
  obtain ⟨⟨⟨⟨⟨g1, g2⟩, g3⟩, g4⟩, g5⟩, g6⟩ := h5
  simp [Cond.before, Cond.holds, Cond.value, h1, h2, h3, h4, g1, g2, g3, g4, g5, g6]
def isCode : Jvm.Cond → Bool
  | .code _ _ _ _ => true
  | _ => false
theorem all_split {L : List Jvm.Cond} {P : Jvm.Cond → Bool} (h1 : L.all (fun c => isCode c || P c) = true) (h2 : ∀ c ∈ L.filter isCode, P c = true) : L.all P = true := by
  refine List.all_eq_true.mpr fun c hc => ?_
  have h := List.all_eq_true.mp h1 c hc
  rcases Bool.eq_false_or_eq_true (isCode c) with hi | hi
  · exact h2 c (List.mem_filter.mpr ⟨hc, hi⟩)
  · simpa [hi] using h
set_option maxRecDepth 65536 in
theorem w_c0 : (Jvm.Cond.code x code maxLocals ret).before args0 about1 = true := code_word (m := ⟨1, 1⟩) (meth := k1m1) (c := k1c1) (by decide +kernel) rfl rfl rfl (by decide +kernel)
set_option maxRecDepth 65536 in
theorem w_c1 : (Jvm.Cond.code ({ cls := "com/example/ullr/ullr/files/GlobIsGlobPinLaw", name := "draw", desc := "(I)C" } : Jvm.MethodName) method_3_code (2 : Nat) (Option.some Jvm.ClassFile.FieldType.char)).before args0 about1 = true := code_word (m := ⟨1, 2⟩) (meth := k1m2) (c := k1c2) (by decide +kernel) rfl rfl rfl (by decide +kernel)
set_option maxRecDepth 65536 in
theorem w_c2 : (Jvm.Cond.code ({ cls := "java/lang/String", name := "<init>", desc := "([C)V" } : Jvm.MethodName) jdk_42_method_3_code (2 : Nat) (Option.none : Option Jvm.ClassFile.FieldType)).before args0 about1 = true := code_word (m := ⟨7, 1⟩) (meth := k7m1) (c := k7c1) (by decide +kernel) rfl rfl rfl (by decide +kernel)
set_option maxRecDepth 65536 in
theorem w_c3 : (Jvm.Cond.code ({ cls := "java/lang/String", name := "<init>", desc := "([CIILjava/lang/Void;)V" } : Jvm.MethodName) jdk_42_method_149_code (6 : Nat) (Option.none : Option Jvm.ClassFile.FieldType)).before args0 about1 = true := code_word (m := ⟨7, 5⟩) (meth := k7m5) (c := k7c5) (by decide +kernel) rfl rfl rfl (by decide +kernel)
set_option maxRecDepth 65536 in
theorem w_c4 : (Jvm.Cond.code ({ cls := "java/lang/Object", name := "<init>", desc := "()V" } : Jvm.MethodName) object_method_1_code (1 : Nat) (Option.none : Option Jvm.ClassFile.FieldType)).before args0 about1 = true := code_word (m := ⟨0, 0⟩) (meth := k0m0) (c := k0c0) (by decide +kernel) rfl rfl rfl (by decide +kernel)
set_option maxRecDepth 65536 in
theorem w_c5 : (Jvm.Cond.code ({ cls := "com/example/ullr/ullr/files/Glob", name := "isGlob", desc := "(Ljava/lang/String;)Z" } : Jvm.MethodName) prog_20_method_2_code (1 : Nat) (Option.some Jvm.ClassFile.FieldType.boolean)).before args0 about1 = true := code_word (m := ⟨8, 0⟩) (meth := k8m0) (c := k8c0) (by decide +kernel) rfl rfl rfl (by decide +kernel)
set_option maxRecDepth 65536 in
theorem w_c6 : (Jvm.Cond.code ({ cls := "java/lang/String", name := "indexOf", desc := "(I)I" } : Jvm.MethodName) jdk_42_method_79_code (2 : Nat) (Option.some Jvm.ClassFile.FieldType.int)).before args0 about1 = true := code_word (m := ⟨7, 3⟩) (meth := k7m3) (c := k7c3) (by decide +kernel) rfl rfl rfl (by decide +kernel)
set_option maxRecDepth 65536 in
theorem w_c7 : (Jvm.Cond.code ({ cls := "java/lang/String", name := "indexOf", desc := "(II)I" } : Jvm.MethodName) jdk_42_method_80_code (3 : Nat) (Option.some Jvm.ClassFile.FieldType.int)).before args0 about1 = true := code_word (m := ⟨7, 4⟩) (meth := k7m4) (c := k7c4) (by decide +kernel) rfl rfl rfl (by decide +kernel)
set_option maxRecDepth 65536 in
theorem w_c8 : (Jvm.Cond.code ({ cls := "java/lang/String", name := "isLatin1", desc := "()Z" } : Jvm.MethodName) jdk_42_method_154_code (1 : Nat) (Option.some Jvm.ClassFile.FieldType.boolean)).before args0 about1 = true := code_word (m := ⟨7, 7⟩) (meth := k7m7) (c := k7c7) (by decide +kernel) rfl rfl rfl (by decide +kernel)
set_option maxRecDepth 65536 in
theorem w_c9 : (Jvm.Cond.code ({ cls := "java/lang/String", name := "length", desc := "()I" } : Jvm.MethodName) jdk_42_method_54_code (1 : Nat) (Option.some Jvm.ClassFile.FieldType.int)).before args0 about1 = true := code_word (m := ⟨7, 2⟩) (meth := k7m2) (c := k7c2) (by decide +kernel) rfl rfl rfl (by decide +kernel)
set_option maxRecDepth 65536 in
theorem w_c10 : (Jvm.Cond.code ({ cls := "java/lang/String", name := "coder", desc := "()B" } : Jvm.MethodName) jdk_42_method_152_code (1 : Nat) (Option.some Jvm.ClassFile.FieldType.byte)).before args0 about1 = true := code_word (m := ⟨7, 6⟩) (meth := k7m6) (c := k7c6) (by decide +kernel) rfl rfl rfl (by decide +kernel)
set_option maxRecDepth 65536 in
theorem w_c11 : (Jvm.Cond.code ({ cls := "java/lang/StringLatin1", name := "indexOf", desc := "([BIII)I" } : Jvm.MethodName) jdk_43_method_22_code (4 : Nat) (Option.some Jvm.ClassFile.FieldType.int)).before args0 about1 = true := code_word (m := ⟨9, 2⟩) (meth := k9m2) (c := k9c2) (by decide +kernel) rfl rfl rfl (by decide +kernel)
set_option maxRecDepth 65536 in
theorem w_c12 : (Jvm.Cond.code ({ cls := "java/lang/StringLatin1", name := "canEncode", desc := "(I)Z" } : Jvm.MethodName) jdk_43_method_4_code (1 : Nat) (Option.some Jvm.ClassFile.FieldType.boolean)).before args0 about1 = true := code_word (m := ⟨9, 1⟩) (meth := k9m1) (c := k9c1) (by decide +kernel) rfl rfl rfl (by decide +kernel)
set_option maxRecDepth 65536 in
theorem w_c13 : (Jvm.Cond.code ({ cls := "java/lang/Math", name := "max", desc := "(II)I" } : Jvm.MethodName) jdk_29_method_65_code (2 : Nat) (Option.some Jvm.ClassFile.FieldType.int)).before args0 about1 = true := code_word (m := ⟨10, 1⟩) (meth := k10m1) (c := k10c1) (by decide +kernel) rfl rfl rfl (by decide +kernel)
set_option maxRecDepth 65536 in
theorem w_c14 : (Jvm.Cond.code ({ cls := "java/lang/Math", name := "min", desc := "(II)I" } : Jvm.MethodName) jdk_29_method_69_code (2 : Nat) (Option.some Jvm.ClassFile.FieldType.int)).before args0 about1 = true := code_word (m := ⟨10, 2⟩) (meth := k10m2) (c := k10c2) (by decide +kernel) rfl rfl rfl (by decide +kernel)
set_option maxRecDepth 65536 in
theorem w_c15 : (Jvm.Cond.code ({ cls := "java/lang/StringUTF16", name := "compress", desc := "([CII)[B" } : Jvm.MethodName) jdk_52_method_16_code (6 : Nat) (Option.some (Jvm.ClassFile.FieldType.array Jvm.ClassFile.FieldType.byte))).before args0 about1 = true := code_word (m := ⟨11, 8⟩) (meth := k11m8) (c := k11c8) (by decide +kernel) rfl rfl rfl (by decide +kernel)
set_option maxRecDepth 65536 in
theorem w_c16 : (Jvm.Cond.code ({ cls := "java/lang/StringUTF16", name := "compress", desc := "([CI[BII)I" } : Jvm.MethodName) jdk_52_method_21_code (7 : Nat) (Option.some Jvm.ClassFile.FieldType.int)).before args0 about1 = true := code_word (m := ⟨11, 9⟩) (meth := k11m9) (c := k11c9) (by decide +kernel) rfl rfl rfl (by decide +kernel)
set_option maxRecDepth 65536 in
theorem w_c17 : (Jvm.Cond.code ({ cls := "java/lang/StringUTF16", name := "coderFromArrayLen", desc := "([BI)B" } : Jvm.MethodName) jdk_52_method_15_code (2 : Nat) (Option.some Jvm.ClassFile.FieldType.byte)).before args0 about1 = true := code_word (m := ⟨11, 7⟩) (meth := k11m7) (c := k11c7) (by decide +kernel) rfl rfl rfl (by decide +kernel)
set_option maxRecDepth 65536 in
theorem w_c18 : (Jvm.Cond.code ({ cls := "com/example/ullr/ullr/files/GlobIsGlobPinLaw", name := "wild", desc := "(C)Z" } : Jvm.MethodName) method_4_code (1 : Nat) (Option.some Jvm.ClassFile.FieldType.boolean)).before args0 about1 = true := code_word (m := ⟨1, 3⟩) (meth := k1m3) (c := k1c3) (by decide +kernel) rfl rfl rfl (by decide +kernel)
set_option maxRecDepth 65536 in
theorem w_c19 : (Jvm.Cond.code ({ cls := "java/lang/StringLatin1", name := "indexOfChar", desc := "([BIII)I" } : Jvm.MethodName) jdk_43_method_23_code (6 : Nat) (Option.some Jvm.ClassFile.FieldType.int)).before args0 about1 = true := code_word (m := ⟨9, 3⟩) (meth := k9m3) (c := k9c3) (by decide +kernel) rfl rfl rfl (by decide +kernel)
set_option maxRecDepth 65536 in
theorem w_c20 : (Jvm.Cond.code ({ cls := "java/lang/StringUTF16", name := "toBytes", desc := "([CII)[B" } : Jvm.MethodName) jdk_52_method_14_code (5 : Nat) (Option.some (Jvm.ClassFile.FieldType.array Jvm.ClassFile.FieldType.byte))).before args0 about1 = true := code_word (m := ⟨11, 6⟩) (meth := k11m6) (c := k11c6) (by decide +kernel) rfl rfl rfl (by decide +kernel)
set_option maxRecDepth 65536 in
theorem w_c21 : (Jvm.Cond.code ({ cls := "java/lang/StringUTF16", name := "newBytesFor", desc := "(I)[B" } : Jvm.MethodName) jdk_52_method_2_code (1 : Nat) (Option.some (Jvm.ClassFile.FieldType.array Jvm.ClassFile.FieldType.byte))).before args0 about1 = true := code_word (m := ⟨11, 1⟩) (meth := k11m1) (c := k11c1) (by decide +kernel) rfl rfl rfl (by decide +kernel)
set_option maxRecDepth 65536 in
theorem w_c22 : (Jvm.Cond.code ({ cls := "java/lang/StringUTF16", name := "newBytesLength", desc := "(I)I" } : Jvm.MethodName) jdk_52_method_3_code (1 : Nat) (Option.some Jvm.ClassFile.FieldType.int)).before args0 about1 = true := code_word (m := ⟨11, 2⟩) (meth := k11m2) (c := k11c2) (by decide +kernel) rfl rfl rfl (by decide +kernel)
set_option maxRecDepth 65536 in
theorem w_c23 : (Jvm.Cond.code ({ cls := "java/lang/StringUTF16", name := "putChar", desc := "([BII)V" } : Jvm.MethodName) jdk_52_method_4_code (3 : Nat) (Option.none : Option Jvm.ClassFile.FieldType)).before args0 about1 = true := code_word (m := ⟨11, 3⟩) (meth := k11m3) (c := k11c3) (by decide +kernel) rfl rfl rfl (by decide +kernel)
set_option maxRecDepth 65536 in
theorem w_c24 : (Jvm.Cond.code ({ cls := "java/lang/StringUTF16", name := "getChar", desc := "([BI)C" } : Jvm.MethodName) jdk_52_method_5_code (2 : Nat) (Option.some Jvm.ClassFile.FieldType.char)).before args0 about1 = true := code_word (m := ⟨11, 4⟩) (meth := k11m4) (c := k11c4) (by decide +kernel) rfl rfl rfl (by decide +kernel)
set_option maxRecDepth 65536 in
theorem w_c25 : (Jvm.Cond.code ({ cls := "java/lang/StringUTF16", name := "indexOf", desc := "([BIII)I" } : Jvm.MethodName) jdk_52_method_40_code (4 : Nat) (Option.some Jvm.ClassFile.FieldType.int)).before args0 about1 = true := code_word (m := ⟨11, 10⟩) (meth := k11m10) (c := k11c10) (by decide +kernel) rfl rfl rfl (by decide +kernel)
set_option maxRecDepth 65536 in
theorem w_c26 : (Jvm.Cond.code ({ cls := "java/lang/StringUTF16", name := "indexOfChar", desc := "([BIII)I" } : Jvm.MethodName) jdk_52_method_47_code (4 : Nat) (Option.some Jvm.ClassFile.FieldType.int)).before args0 about1 = true := code_word (m := ⟨11, 11⟩) (meth := k11m11) (c := k11c11) (by decide +kernel) rfl rfl rfl (by decide +kernel)
set_option maxRecDepth 65536 in
theorem w_c27 : (Jvm.Cond.code ({ cls := "java/lang/StringUTF16", name := "checkBoundsBeginEnd", desc := "(II[B)V" } : Jvm.MethodName) jdk_52_method_93_code (3 : Nat) (Option.none : Option Jvm.ClassFile.FieldType)).before args0 about1 = true := code_word (m := ⟨11, 13⟩) (meth := k11m13) (c := k11c13) (by decide +kernel) rfl rfl rfl (by decide +kernel)
set_option maxRecDepth 65536 in
theorem w_c28 : (Jvm.Cond.code ({ cls := "java/lang/StringUTF16", name := "length", desc := "([B)I" } : Jvm.MethodName) jdk_52_method_6_code (1 : Nat) (Option.some Jvm.ClassFile.FieldType.int)).before args0 about1 = true := code_word (m := ⟨11, 5⟩) (meth := k11m5) (c := k11c5) (by decide +kernel) rfl rfl rfl (by decide +kernel)
set_option maxRecDepth 65536 in
theorem w_c29 : (Jvm.Cond.code ({ cls := "java/lang/String", name := "checkBoundsBeginEnd", desc := "(III)V" } : Jvm.MethodName) jdk_42_method_158_code (3 : Nat) (Option.none : Option Jvm.ClassFile.FieldType)).before args0 about1 = true := code_word (m := ⟨7, 8⟩) (meth := k7m8) (c := k7c8) (by decide +kernel) rfl rfl rfl (by decide +kernel)
set_option maxRecDepth 65536 in
theorem w_c30 : (Jvm.Cond.code ({ cls := "jdk/internal/util/Preconditions", name := "checkFromToIndex", desc := "(IIILjava/util/function/BiFunction;)I" } : Jvm.MethodName) jdk_41_method_12_code (4 : Nat) (Option.some Jvm.ClassFile.FieldType.int)).before args0 about1 = true := code_word (m := ⟨12, 1⟩) (meth := k12m1) (c := k12c1) (by decide +kernel) rfl rfl rfl (by decide +kernel)
set_option maxRecDepth 65536 in
theorem w_c31 : (Jvm.Cond.code ({ cls := "java/lang/StringUTF16", name := "indexOfCharUnsafe", desc := "([BIII)I" } : Jvm.MethodName) jdk_52_method_48_code (5 : Nat) (Option.some Jvm.ClassFile.FieldType.int)).before args0 about1 = true := code_word (m := ⟨11, 12⟩) (meth := k11m12) (c := k11c12) (by decide +kernel) rfl rfl rfl (by decide +kernel)
def codes1 : List Jvm.Cond := [Jvm.Cond.code x code maxLocals ret, Jvm.Cond.code ({ cls := "com/example/ullr/ullr/files/GlobIsGlobPinLaw", name := "draw", desc := "(I)C" } : Jvm.MethodName) method_3_code (2 : Nat) (Option.some Jvm.ClassFile.FieldType.char), Jvm.Cond.code ({ cls := "java/lang/String", name := "<init>", desc := "([C)V" } : Jvm.MethodName) jdk_42_method_3_code (2 : Nat) (Option.none : Option Jvm.ClassFile.FieldType), Jvm.Cond.code ({ cls := "java/lang/String", name := "<init>", desc := "([CIILjava/lang/Void;)V" } : Jvm.MethodName) jdk_42_method_149_code (6 : Nat) (Option.none : Option Jvm.ClassFile.FieldType), Jvm.Cond.code ({ cls := "java/lang/Object", name := "<init>", desc := "()V" } : Jvm.MethodName) object_method_1_code (1 : Nat) (Option.none : Option Jvm.ClassFile.FieldType), Jvm.Cond.code ({ cls := "com/example/ullr/ullr/files/Glob", name := "isGlob", desc := "(Ljava/lang/String;)Z" } : Jvm.MethodName) prog_20_method_2_code (1 : Nat) (Option.some Jvm.ClassFile.FieldType.boolean), Jvm.Cond.code ({ cls := "java/lang/String", name := "indexOf", desc := "(I)I" } : Jvm.MethodName) jdk_42_method_79_code (2 : Nat) (Option.some Jvm.ClassFile.FieldType.int), Jvm.Cond.code ({ cls := "java/lang/String", name := "indexOf", desc := "(II)I" } : Jvm.MethodName) jdk_42_method_80_code (3 : Nat) (Option.some Jvm.ClassFile.FieldType.int), Jvm.Cond.code ({ cls := "java/lang/String", name := "isLatin1", desc := "()Z" } : Jvm.MethodName) jdk_42_method_154_code (1 : Nat) (Option.some Jvm.ClassFile.FieldType.boolean), Jvm.Cond.code ({ cls := "java/lang/String", name := "length", desc := "()I" } : Jvm.MethodName) jdk_42_method_54_code (1 : Nat) (Option.some Jvm.ClassFile.FieldType.int), Jvm.Cond.code ({ cls := "java/lang/String", name := "coder", desc := "()B" } : Jvm.MethodName) jdk_42_method_152_code (1 : Nat) (Option.some Jvm.ClassFile.FieldType.byte), Jvm.Cond.code ({ cls := "java/lang/StringLatin1", name := "indexOf", desc := "([BIII)I" } : Jvm.MethodName) jdk_43_method_22_code (4 : Nat) (Option.some Jvm.ClassFile.FieldType.int), Jvm.Cond.code ({ cls := "java/lang/StringLatin1", name := "canEncode", desc := "(I)Z" } : Jvm.MethodName) jdk_43_method_4_code (1 : Nat) (Option.some Jvm.ClassFile.FieldType.boolean), Jvm.Cond.code ({ cls := "java/lang/Math", name := "max", desc := "(II)I" } : Jvm.MethodName) jdk_29_method_65_code (2 : Nat) (Option.some Jvm.ClassFile.FieldType.int), Jvm.Cond.code ({ cls := "java/lang/Math", name := "min", desc := "(II)I" } : Jvm.MethodName) jdk_29_method_69_code (2 : Nat) (Option.some Jvm.ClassFile.FieldType.int), Jvm.Cond.code ({ cls := "java/lang/StringUTF16", name := "compress", desc := "([CII)[B" } : Jvm.MethodName) jdk_52_method_16_code (6 : Nat) (Option.some (Jvm.ClassFile.FieldType.array Jvm.ClassFile.FieldType.byte)), Jvm.Cond.code ({ cls := "java/lang/StringUTF16", name := "compress", desc := "([CI[BII)I" } : Jvm.MethodName) jdk_52_method_21_code (7 : Nat) (Option.some Jvm.ClassFile.FieldType.int), Jvm.Cond.code ({ cls := "java/lang/StringUTF16", name := "coderFromArrayLen", desc := "([BI)B" } : Jvm.MethodName) jdk_52_method_15_code (2 : Nat) (Option.some Jvm.ClassFile.FieldType.byte), Jvm.Cond.code ({ cls := "com/example/ullr/ullr/files/GlobIsGlobPinLaw", name := "wild", desc := "(C)Z" } : Jvm.MethodName) method_4_code (1 : Nat) (Option.some Jvm.ClassFile.FieldType.boolean), Jvm.Cond.code ({ cls := "java/lang/StringLatin1", name := "indexOfChar", desc := "([BIII)I" } : Jvm.MethodName) jdk_43_method_23_code (6 : Nat) (Option.some Jvm.ClassFile.FieldType.int), Jvm.Cond.code ({ cls := "java/lang/StringUTF16", name := "toBytes", desc := "([CII)[B" } : Jvm.MethodName) jdk_52_method_14_code (5 : Nat) (Option.some (Jvm.ClassFile.FieldType.array Jvm.ClassFile.FieldType.byte)), Jvm.Cond.code ({ cls := "java/lang/StringUTF16", name := "newBytesFor", desc := "(I)[B" } : Jvm.MethodName) jdk_52_method_2_code (1 : Nat) (Option.some (Jvm.ClassFile.FieldType.array Jvm.ClassFile.FieldType.byte)), Jvm.Cond.code ({ cls := "java/lang/StringUTF16", name := "newBytesLength", desc := "(I)I" } : Jvm.MethodName) jdk_52_method_3_code (1 : Nat) (Option.some Jvm.ClassFile.FieldType.int), Jvm.Cond.code ({ cls := "java/lang/StringUTF16", name := "putChar", desc := "([BII)V" } : Jvm.MethodName) jdk_52_method_4_code (3 : Nat) (Option.none : Option Jvm.ClassFile.FieldType), Jvm.Cond.code ({ cls := "java/lang/StringUTF16", name := "getChar", desc := "([BI)C" } : Jvm.MethodName) jdk_52_method_5_code (2 : Nat) (Option.some Jvm.ClassFile.FieldType.char), Jvm.Cond.code ({ cls := "java/lang/StringUTF16", name := "indexOf", desc := "([BIII)I" } : Jvm.MethodName) jdk_52_method_40_code (4 : Nat) (Option.some Jvm.ClassFile.FieldType.int), Jvm.Cond.code ({ cls := "java/lang/StringUTF16", name := "indexOfChar", desc := "([BIII)I" } : Jvm.MethodName) jdk_52_method_47_code (4 : Nat) (Option.some Jvm.ClassFile.FieldType.int), Jvm.Cond.code ({ cls := "java/lang/StringUTF16", name := "checkBoundsBeginEnd", desc := "(II[B)V" } : Jvm.MethodName) jdk_52_method_93_code (3 : Nat) (Option.none : Option Jvm.ClassFile.FieldType), Jvm.Cond.code ({ cls := "java/lang/StringUTF16", name := "length", desc := "([B)I" } : Jvm.MethodName) jdk_52_method_6_code (1 : Nat) (Option.some Jvm.ClassFile.FieldType.int), Jvm.Cond.code ({ cls := "java/lang/String", name := "checkBoundsBeginEnd", desc := "(III)V" } : Jvm.MethodName) jdk_42_method_158_code (3 : Nat) (Option.none : Option Jvm.ClassFile.FieldType), Jvm.Cond.code ({ cls := "jdk/internal/util/Preconditions", name := "checkFromToIndex", desc := "(IIILjava/util/function/BiFunction;)I" } : Jvm.MethodName) jdk_41_method_12_code (4 : Nat) (Option.some Jvm.ClassFile.FieldType.int), Jvm.Cond.code ({ cls := "java/lang/StringUTF16", name := "indexOfCharUnsafe", desc := "([BIII)I" } : Jvm.MethodName) jdk_52_method_48_code (5 : Nat) (Option.some Jvm.ClassFile.FieldType.int)]
set_option maxRecDepth 65536 in
theorem codes_eq : words1.filter isCode = codes1 := rfl
theorem w_codes : ∀ c ∈ words1.filter isCode, c.before args0 about1 = true := by
  rw [codes_eq]
  intro c hc
  simp only [codes1, List.mem_cons, List.not_mem_nil, or_false] at hc
  rcases hc with rfl | rfl | rfl | rfl | rfl | rfl | rfl | rfl | rfl | rfl | rfl | rfl | rfl | rfl | rfl | rfl | rfl | rfl | rfl | rfl | rfl | rfl | rfl | rfl | rfl | rfl | rfl | rfl | rfl | rfl | rfl | rfl
  · exact w_c0
  · exact w_c1
  · exact w_c2
  · exact w_c3
  · exact w_c4
  · exact w_c5
  · exact w_c6
  · exact w_c7
  · exact w_c8
  · exact w_c9
  · exact w_c10
  · exact w_c11
  · exact w_c12
  · exact w_c13
  · exact w_c14
  · exact w_c15
  · exact w_c16
  · exact w_c17
  · exact w_c18
  · exact w_c19
  · exact w_c20
  · exact w_c21
  · exact w_c22
  · exact w_c23
  · exact w_c24
  · exact w_c25
  · exact w_c26
  · exact w_c27
  · exact w_c28
  · exact w_c29
  · exact w_c30
  · exact w_c31
set_option maxRecDepth 65536 in
theorem w_t1 : (words1.take 24).all (fun c => isCode c || c.before args0 about1) = true := by decide +kernel
set_option maxRecDepth 65536 in
theorem w_t2 : ((words1.drop 24).take 24).all (fun c => isCode c || c.before args0 about1) = true := by decide +kernel
set_option maxRecDepth 65536 in
theorem w_t3 : (((words1.drop 24).drop 24).take 24).all (fun c => isCode c || c.before args0 about1) = true := by decide +kernel
set_option maxRecDepth 65536 in
theorem w_t4 : ((((words1.drop 24).drop 24).drop 24).take 24).all (fun c => isCode c || c.before args0 about1) = true := by decide +kernel
set_option maxRecDepth 65536 in
theorem w_t5 : (((((words1.drop 24).drop 24).drop 24).drop 24).take 24).all (fun c => isCode c || c.before args0 about1) = true := by decide +kernel
set_option maxRecDepth 65536 in
theorem w_t6 : (((((words1.drop 24).drop 24).drop 24).drop 24).drop 24).all (fun c => isCode c || c.before args0 about1) = true := by decide +kernel
theorem w_tables : (allAtoms (Jvm.Cond.code x code maxLocals ret :: tables_1)).before args0 about1 = true := by
  rw [allAtoms_all]
  show words1.all (fun c => c.before args0 about1) = true
  refine all_split ?_ w_codes
  rw [← List.take_append_drop 24 words1, List.all_append, w_t1, ← List.take_append_drop 24 (words1.drop 24), List.all_append, w_t2, ← List.take_append_drop 24 ((words1.drop 24).drop 24), List.all_append, w_t3, ← List.take_append_drop 24 (((words1.drop 24).drop 24).drop 24), List.all_append, w_t4, ← List.take_append_drop 24 ((((words1.drop 24).drop 24).drop 24).drop 24), List.all_append, w_t5, w_t6]
  rfl
set_option maxRecDepth 65536 in
theorem w_rest : rest_1_c.before args0 about1 = true := by decide +kernel
set_option maxRecDepth 65536 in
theorem w_case : (Jvm.Cond.and given_1 narrow_1).before args0 about1 = true := by decide +kernel
set_option maxRecDepth 65536 in
theorem w_consts : constsHeld consts_1 about1 := Jvm.Lit.constsHeldB_iff.mp (by decide +kernel)
theorem w_applies : (headSpec (Jvm.Cond.code x code maxLocals ret :: tables_1) room_1).applies x e0.platform about1 = true :=
  (Spec.applies_iff w_frames).mpr ⟨w_running, w_runnable, w_alone, w_named, w_hears, w_ripe, w_room, w_tables⟩
theorem atStart : AtStart classFile x code maxLocals ret World_1 tables_1 room_1 Calls_1 rest_1 Pre_1 launch0 p0 e0 about1 theMethod args0 below0 :=
  ⟨lists_1, trivial, launch0.admits_env _ _ _, launch0.least_env, fairChoices_fair.cas, fairChoices_fair.clock, w_frames, w_args, w_heap, w_applies, ⟨w_consts, trivial⟩, w_rest, w_case⟩
end start1
theorem witness_1 : WitnessClaimed_1 := ⟨start1.p0, start1.e0, start1.about1, start1.theMethod, start1.args0, start1.below0, start1.atStart⟩
end Jvm.Pilot.@@N@@
