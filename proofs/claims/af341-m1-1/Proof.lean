import JvmDerived
import JvmDerived.Pilot.@@N@@Statement
import JvmDerived.Pilot.@@N@@Code
set_option linter.unusedVariables false
set_option linter.unusedSimpArgs false
namespace Jvm.RoadKit
open Sem ClassFile Op Lib Jvm.Stand Jvm.Free Jvm.LawKit
section New
variable {p : Program} {l : Launch} {e : Env} {R : Room} {s : State} {m : MethodId} {args : Array Value} {below : List Frame} {meth : Method} {c : Code} {T : State} {locs : List Loc} {cells slots : Nat}
theorem retI (X : Stand p l e R s m args below meth c T locs cells slots) (hx : p.tables.exec = Jvm.exec) {pc : Nat} {Ls : Array Slot} {z : Int32} {rest : List Value} (hret : meth.sig.returnType = some .int) (hd : decode c.code pc = .ok (.ireturn, 1)) {fs : List Frame}
    (hl : ∀ (f : JFrame) (acts : List Action), f.method = m → f.locked = none → f.entered = [] → (doReturn e (T.setTop f) acts (some (.int z))).1 = T.setFrames fs) : Steps p.tables e below (T.setTop (mkF m pc Ls (.int z :: rest))) (T.setFrames fs) := by
  have hm' : T.vm.method? m = some meth := X.method'
  have hn : narrow .int (.int z) = .int z := rfl
  show Steps p.tables e below (T.setTop { method := m, pc := pc, locals := Ls, stack := _ :: rest, locked := none }) _
  jvm_step X.here [X.here.top, hx, hd, hm', hret, hn]
  first | (intro acts; rw [hl _ acts rfl rfl rfl]) | rw [hl _ _ rfl rfl rfl]
  exact Steps.refl _
end New
end Jvm.RoadKit
/- laws to paste: Road.backV (cut by pick.py; bodies as the Statement names them) -/
namespace Jvm.Pilot.@@N@@
namespace StrChars
open Jvm Sem ClassFile Op Lib Jvm.Stand Jvm.Free.XT Jvm.Free.ALB Jvm.Free.JM Jvm.Free
open Jvm.Lib.Cold (StaticIs)
/-- a char array whose places are chars -/
def Ch (a : Addr) (A : Cell) (U : State) : Prop := Arr .char a A U ∧ Typed .char A
theorem Ch.mv {a : Addr} {A : Cell} {U U' : State} (h : Ch a A U) (hal : U.vm.Alike U'.vm) (hh : U'.heap = U.heap) : Ch a A U' := ⟨h.1.mv hal hh, h.2⟩
theorem Ch.keep {a : Addr} {A : Cell} {U U' : State} (h : Ch a A U) (hal : U.vm.Alike U'.vm) (hk : U'.heap[a]? = some A) : Ch a A U' := ⟨h.1.keep hal hk, h.2⟩
/-- what place i of a char[]'s cell holds -/
def cv (A : Cell) (i : Nat) : Int32 := match A.slots[i]? with | some (.int x) => x | _ => 0
theorem Ch.get {a : Addr} {A : Cell} {U : State} (h : Ch a A U) {i : Nat} (hi : i < A.slots.size) : A.slots[i]? = some (.int (cv A i)) := by
  have e := Array.getElem?_eq_getElem hi
  have f := h.2 i _ e
  unfold cv; rw [e]
  generalize A.slots[i] = v at f
  cases v <;> simp [fits] at f ⊢
/-- the byte that i2b leaves of a char -/
def lo8 (x : Int32) : Int32 := x.toInt8.toInt32
theorem fits_lo8 (y : Int32) : fits .byte (.int (lo8 y)) = true := by
  have h1 := y.toInt8.le_toInt
  have h2 := y.toInt8.toInt_lt
  simp only [lo8, fits, Bool.and_eq_true, decide_eq_true_eq, Int32.le_iff_toInt_le, Int8.toInt_toInt32, show (-128 : Int32).toInt = -128 from by decide, show (127 : Int32).toInt = 127 from by decide]
  omega
/-- A' is A but that each place j of lo .. hi - 1 holds f j -/
def Laid (A A' : Cell) (lo hi : Nat) (f : Nat → Value) : Prop := A'.cls = A.cls ∧ A'.vm = A.vm ∧ A'.slots.size = A.slots.size ∧ ∀ i, A'.slots[i]? = if lo ≤ i ∧ i < hi then some (f i) else A.slots[i]?
theorem Laid.zero (A : Cell) (lo : Nat) (f : Nat → Value) : Laid A A lo (lo + 0) f := ⟨rfl, rfl, rfl, fun i => by rw [if_neg (by omega)]⟩
theorem Laid.step {A Ak : Cell} {lo k : Nat} {f : Nat → Value} {v : Value} (h : Laid A Ak lo k f) (hlo : lo ≤ k) (hk : k < Ak.slots.size) (hv : v = f k) : Laid A (Ak.setSlot k v) lo (k + 1) f := by
  refine ⟨h.1, h.2.1, by simpa [Cell.setSlot] using h.2.2.1, fun i => ?_⟩
  by_cases e : k = i
  · subst e; rw [Cell.slots_setSlot_self v hk, if_pos (by omega), hv]
  · rw [Cell.slots_setSlot_ne v e, h.2.2.2 i]
    by_cases q : lo ≤ i ∧ i < k
    · rw [if_pos q, if_pos (by omega)]
    · rw [if_neg q, if_neg (by omega)]
def U16 : String := "java/lang/StringUTF16"
namespace Cmp5
def yN : MethodName := ⟨"java/lang/StringUTF16", "compress", "([CI[BII)I"⟩
abbrev yB : ByteArray := jdk_52_method_21_code
theorem d0 : decode yB 0 = .ok (.iconst 0, 1) := by decide +kernel
theorem d1 : decode yB 1 = .ok (.istore 5, 2) := by decide +kernel
theorem d3 : decode yB 3 = .ok (.iload 5, 2) := by decide +kernel
theorem d5 : decode yB 5 = .ok (.iload 4, 2) := by decide +kernel
theorem d7 : decode yB 7 = .ok (.if_icmp (.ge) 37, 3) := by decide +kernel
theorem d10 : decode yB 10 = .ok (.aload_n 0, 1) := by decide +kernel
theorem d11 : decode yB 11 = .ok (.iload_n 1, 1) := by decide +kernel
theorem d12 : decode yB 12 = .ok (.caload, 1) := by decide +kernel
theorem d13 : decode yB 13 = .ok (.istore 6, 2) := by decide +kernel
theorem d15 : decode yB 15 = .ok (.iload 6, 2) := by decide +kernel
theorem d17 : decode yB 17 = .ok (.sipush 255, 3) := by decide +kernel
theorem d20 : decode yB 20 = .ok (.if_icmp (.le) 6, 3) := by decide +kernel
theorem d26 : decode yB 26 = .ok (.aload_n 2, 1) := by decide +kernel
theorem d27 : decode yB 27 = .ok (.iload_n 3, 1) := by decide +kernel
theorem d28 : decode yB 28 = .ok (.iload 6, 2) := by decide +kernel
theorem d30 : decode yB 30 = .ok (.i2b, 1) := by decide +kernel
theorem d31 : decode yB 31 = .ok (.bastore, 1) := by decide +kernel
theorem d32 : decode yB 32 = .ok (.iinc 1 1, 3) := by decide +kernel
theorem d35 : decode yB 35 = .ok (.iinc 3 1, 3) := by decide +kernel
theorem d38 : decode yB 38 = .ok (.iinc 5 1, 3) := by decide +kernel
theorem d41 : decode yB 41 = .ok (.goto (-38), 3) := by decide +kernel
theorem d44 : decode yB 44 = .ok (.iload 4, 2) := by decide +kernel
theorem d46 : decode yB 46 = .ok (.ireturn, 1) := by decide +kernel
def site : List Cond := []
def tab : Cond := tabOf yN yB 7 (some .int) site
def P (b : Addr) (A : Cell) (d : Addr) (B : Cell) (o q len : Nat) (args : Array Value) (s : State) : Prop := args = #[.ref b, .int (Int32.ofNat o), .ref d, .int (Int32.ofNat q), .int (Int32.ofNat len)] ∧ Ch b A s ∧ Arr .byte d B s ∧ b ≠ d ∧ o + len ≤ A.slots.size ∧ q + len ≤ B.slots.size ∧ ∀ i, i < len → ¬ 255 < cv A (o + i)
def E (b : Addr) (A : Cell) (d : Addr) (B : Cell) (o q len : Nat) (r : Option Value) (s u : State) : Prop := r = some (.int (Int32.ofNat len)) ∧ ∃ B', Put d B' s u ∧ Laid B B' q (q + len) (fun j => Value.int (lo8 (cv A (o + (j - q)))))
/-- no char of the range above 255: len; the places written hold each char's low byte -/
theorem law (l : Launch) (b : Addr) (A : Cell) (d : Addr) (B : Cell) (o q len : Nat) : Law l yN 5 5 0 0 yB 7 (some .int) site (P b A d B o q len) (E b A d B o q len) (copyLocs d q len) 0 0 := by
  refine Law.of_walk (plainFor_of_name (by decide +kernel)) (by decide +kernel) (by decide +kernel) (by decide) (fun _ _ h => by rw [h.1]; rfl) (fun _ U U' hal hh h => ⟨h.1, h.2.1.mv hal hh, h.2.2.1.mv hal hh, h.2.2.2⟩) (fun r U U' V V' h1 hal h2 h => ⟨h.1, h.2.elim fun B' q => ⟨B', q.1.mv h1 h2, q.2⟩⟩) ?_
  intro p e s m args below meth c s₁ X0 hexec hbytes hml hret hlk hnm hown hh0 W hP
  obtain ⟨rfl, hA, hB, hne, l1, l2, hp⟩ := hP
  have c1 : Steps p.tables e below (s₁.setTop (entryFrame m #[.ref b, .int (Int32.ofNat o), .ref d, .int (Int32.ofNat q), .int (Int32.ofNat len)] 7)) (s₁.setTop (mkF m 0 #[.val (.ref b), .val (.int (Int32.ofNat o)), .val (.ref d), .val (.int (Int32.ofNat q)), .val (.int (Int32.ofNat len)), .unset, .unset] [])) := entry rfl
  have hA0 := hA.1.mv X0.warmed.alike hh0
  have hB0 := hB.mv X0.warmed.alike hh0
  have a31 := hA.1.2.2.2
  have c2 : Steps p.tables e below (s₁.setTop (entryFrame m #[.ref b, .int (Int32.ofNat o), .ref d, .int (Int32.ofNat q), .int (Int32.ofNat len)] 7)) (s₁.setTop (mkF m 3 #[.val (.ref b), .val (.int (Int32.ofNat o)), .val (.ref d), .val (.int (Int32.ofNat q)), .val (.int (Int32.ofNat len)), .val (.int 0), .unset] [])) := c1.trans (by
    refine iconstV X0.here hexec rfl 0 (hb hbytes d0) (by decide) ?_
    refine XS.istore X0.here hexec rfl (hb hbytes d1) rfl rfl ?_
    exact Steps.refl _)
  have loop : ∀ (r i : Nat), i + r = len → ∀ (z : Slot), (z = .unset ∨ ∃ w, z = .val w ∧ w.category = 1) → ∀ (Tl : State) (Bk : Cell), Stand p l e { frames := 0, locals := 0, cells := 0, slots := 0 } s m #[.ref b, .int (Int32.ofNat o), .ref d, .int (Int32.ofNat q), .int (Int32.ofNat len)] below meth c Tl ([] ++ copyLocs d q i) 0 0 → Put d Bk s₁ Tl → Laid B Bk q (q + i) (fun j => Value.int (lo8 (cv A (o + (j - q))))) →
      Steps p.tables e below (s₁.setTop (entryFrame m #[.ref b, .int (Int32.ofNat o), .ref d, .int (Int32.ofNat q), .int (Int32.ofNat len)] 7)) (Tl.setTop (mkF m 3 #[.val (.ref b), .val (.int (Int32.ofNat (o + i))), .val (.ref d), .val (.int (Int32.ofNat (q + i))), .val (.int (Int32.ofNat len)), .val (.int (Int32.ofNat i)), z] [])) → ∃ (T' : State) (B' : Cell) (z' : Slot), Stand p l e { frames := 0, locals := 0, cells := 0, slots := 0 } s m #[.ref b, .int (Int32.ofNat o), .ref d, .int (Int32.ofNat q), .int (Int32.ofNat len)] below meth c T' ([] ++ copyLocs d q len) 0 0 ∧ Put d B' s₁ T' ∧ Laid B B' q (q + len) (fun j => Value.int (lo8 (cv A (o + (j - q))))) ∧
      Steps p.tables e below (s₁.setTop (entryFrame m #[.ref b, .int (Int32.ofNat o), .ref d, .int (Int32.ofNat q), .int (Int32.ofNat len)] 7)) (T'.setTop (mkF m 3 #[.val (.ref b), .val (.int (Int32.ofNat (o + len))), .val (.ref d), .val (.int (Int32.ofNat (q + len))), .val (.int (Int32.ofNat len)), .val (.int (Int32.ofNat len)), z'] [])) := by
    intro r
    induction r with
    | zero =>
      intro i hi z hz Tl Bk Xl pl fl cl
      have hil : i = len := by omega
      rw [hil] at Xl fl cl
      exact ⟨Tl, Bk, z, Xl, pl, fl, cl⟩
    | succ r ih =>
      intro i hi z hz Tl Bk Xl pl fl cl
      have all := X0.warmed.alike.symm.trans Xl.warmed.alike
      have hAl := hA0.keep all (pl.other hne hA0.1)
      have hBk := hB0.like all pl.1 fl.1 fl.2.1 fl.2.2.1
      have hlt : q + i < Bk.slots.size := by rw [fl.2.2.1]; omega
      have c3 : Steps p.tables e below (s₁.setTop (entryFrame m #[.ref b, .int (Int32.ofNat o), .ref d, .int (Int32.ofNat q), .int (Int32.ofNat len)] 7)) (Tl.setTop (mkF m 12 #[.val (.ref b), .val (.int (Int32.ofNat (o + i))), .val (.ref d), .val (.int (Int32.ofNat (q + i))), .val (.int (Int32.ofNat len)), .val (.int (Int32.ofNat i)), z] [.int (Int32.ofNat (o + i)), .ref b])) := cl.trans (by
        refine XS.iload Xl.here hexec rfl (hb hbytes d3) rfl ?_
        refine XS.iload Xl.here hexec rfl (hb hbytes d5) rfl ?_
        refine XS.icmpNo Xl.here hexec rfl (hb hbytes d7) rfl (ii_ge_f (lt32 (by omega) (by omega))) ?_
        refine XS.aloadN Xl.here hexec rfl (hb hbytes d10) rfl rfl ?_
        refine XS.iloadN Xl.here hexec rfl (hb hbytes d11) rfl ?_
        exact Steps.refl _)
      have c4 : Steps p.tables e below (s₁.setTop (entryFrame m #[.ref b, .int (Int32.ofNat o), .ref d, .int (Int32.ofNat q), .int (Int32.ofNat len)] 7)) (Tl.setTop (mkF m 13 #[.val (.ref b), .val (.int (Int32.ofNat (o + i))), .val (.ref d), .val (.int (Int32.ofNat (q + i))), .val (.int (Int32.ofNat len)), .val (.int (Int32.ofNat i)), z] [.int (cv A (o + i))])) := c3.trans (by
        refine Xl.aget hexec hAl rfl (hA.get (i := o + i) (by omega)) rfl rfl (hb hbytes d12) ?_
        exact Steps.refl _)
      have c5 : Steps p.tables e below (s₁.setTop (entryFrame m #[.ref b, .int (Int32.ofNat o), .ref d, .int (Int32.ofNat q), .int (Int32.ofNat len)] 7)) (Tl.setTop (mkF m 15 #[.val (.ref b), .val (.int (Int32.ofNat (o + i))), .val (.ref d), .val (.int (Int32.ofNat (q + i))), .val (.int (Int32.ofNat len)), .val (.int (Int32.ofNat i)), .val (.int (cv A (o + i)))] [])) := c4.trans (by
        refine XS.istoreS Xl.here hexec rfl (hb hbytes d13) rfl rfl hz ?_
        exact Steps.refl _)
      have c6 : Steps p.tables e below (s₁.setTop (entryFrame m #[.ref b, .int (Int32.ofNat o), .ref d, .int (Int32.ofNat q), .int (Int32.ofNat len)] 7)) (Tl.setTop (mkF m 31 #[.val (.ref b), .val (.int (Int32.ofNat (o + i))), .val (.ref d), .val (.int (Int32.ofNat (q + i))), .val (.int (Int32.ofNat len)), .val (.int (Int32.ofNat i)), .val (.int (cv A (o + i)))] [.int (lo8 (cv A (o + i))), .int (Int32.ofNat (q + i)), .ref d])) := c5.trans (by
        refine XS.iload Xl.here hexec rfl (hb hbytes d15) rfl ?_
        refine sipushV Xl.here hexec rfl 255 (hb hbytes d17) (by decide) ?_
        refine XS.icmpYes Xl.here hexec rfl (pc0 := 20) rfl (hb hbytes d20) rfl (ii_le_t (hp i (by omega))) (by decide) rfl ?_
        refine XS.aloadN Xl.here hexec rfl (hb hbytes d26) rfl rfl ?_
        refine XS.iloadN Xl.here hexec rfl (hb hbytes d27) rfl ?_
        refine XS.iload Xl.here hexec rfl (hb hbytes d28) rfl ?_
        refine i2b Xl.here hexec rfl (hb hbytes d30) rfl ?_
        exact Steps.refl _)
      obtain ⟨T7, X7, p7, st7⟩ := Xl.aput hexec hBk rfl hlt rfl (fits_lo8 (cv A (o + i))) (g := (mkF m 31 #[.val (.ref b), .val (.int (Int32.ofNat (o + i))), .val (.ref d), .val (.int (Int32.ofNat (q + i))), .val (.int (Int32.ofNat len)), .val (.int (Int32.ofNat i)), .val (.int (cv A (o + i)))] [.int (lo8 (cv A (o + i))), .int (Int32.ofNat (q + i)), .ref d])) rfl (rest := []) rfl (hb hbytes d31)
      have c8 : Steps p.tables e below (s₁.setTop (entryFrame m #[.ref b, .int (Int32.ofNat o), .ref d, .int (Int32.ofNat q), .int (Int32.ofNat len)] 7)) (T7.setTop (mkF m 32 #[.val (.ref b), .val (.int (Int32.ofNat (o + i))), .val (.ref d), .val (.int (Int32.ofNat (q + i))), .val (.int (Int32.ofNat len)), .val (.int (Int32.ofNat i)), .val (.int (cv A (o + i)))] [])) := c6.trans (st7 _ (Steps.refl _))
      have c9 : Steps p.tables e below (s₁.setTop (entryFrame m #[.ref b, .int (Int32.ofNat o), .ref d, .int (Int32.ofNat q), .int (Int32.ofNat len)] 7)) (T7.setTop (mkF m 3 #[.val (.ref b), .val (.int (Int32.ofNat (o + i) + 1)), .val (.ref d), .val (.int (Int32.ofNat (q + i) + 1)), .val (.int (Int32.ofNat len)), .val (.int (Int32.ofNat i + 1)), .val (.int (cv A (o + i)))] [])) := c8.trans (by
        refine iincV X7.here hexec rfl 1 (hb hbytes d32) (by decide) rfl rfl ?_
        refine iincV X7.here hexec rfl 1 (hb hbytes d35) (by decide) rfl rfl ?_
        refine iincV X7.here hexec rfl 1 (hb hbytes d38) (by decide) rfl rfl ?_
        refine XS.goto X7.here hexec rfl (pc0 := 41) rfl (hb hbytes d41) (by decide) rfl ?_
        exact Steps.refl _)
      have c10 : Steps p.tables e below (s₁.setTop (entryFrame m #[.ref b, .int (Int32.ofNat o), .ref d, .int (Int32.ofNat q), .int (Int32.ofNat len)] 7)) (T7.setTop (mkF m 3 #[.val (.ref b), .val (.int (Int32.ofNat (o + (i + 1)))), .val (.ref d), .val (.int (Int32.ofNat (q + (i + 1)))), .val (.int (Int32.ofNat len)), .val (.int (Int32.ofNat (i + 1))), .val (.int (cv A (o + i)))] [])) := by
        have := c9
        rw [succ32, succ32, succ32] at this
        exact this
      exact ih (i + 1) (by omega) _ (Or.inr ⟨_, rfl, rfl⟩) T7 _ (by rw [copyLocs_step, ← List.append_assoc]; exact X7) (pl.trans p7) (fl.step (by omega) hlt (by simp)) c10
  obtain ⟨T9, B9, z9, X9, p9, f9, g9⟩ := loop len 0 (by omega) .unset (Or.inl rfl) s₁ B (by simpa [copyLocs] using X0) ⟨hB0.1, fun _ _ => rfl, rfl⟩ (Laid.zero _ _ _) c2
  have c11 : Steps p.tables e below (s₁.setTop (entryFrame m #[.ref b, .int (Int32.ofNat o), .ref d, .int (Int32.ofNat q), .int (Int32.ofNat len)] 7)) (T9.setTop (mkF m 46 #[.val (.ref b), .val (.int (Int32.ofNat (o + len))), .val (.ref d), .val (.int (Int32.ofNat (q + len))), .val (.int (Int32.ofNat len)), .val (.int (Int32.ofNat len)), z9] [.int (Int32.ofNat len)])) := g9.trans (by
    refine XS.iload X9.here hexec rfl (hb hbytes d3) rfl ?_
    refine XS.iload X9.here hexec rfl (hb hbytes d5) rfl ?_
    refine XS.icmpYes X9.here hexec rfl (pc0 := 7) rfl (hb hbytes d7) rfl (ii_ge_t (nlt32 (by omega) (Nat.le_refl _))) (by decide) rfl ?_
    refine XS.iload X9.here hexec rfl (hb hbytes d44) rfl ?_
    exact Steps.refl _)
  exact ⟨T9, some (.int (Int32.ofNat len)), _, _, _, X9, by simp, rfl, rfl, (fun h => by cases h), ⟨rfl, B9, p9.from hh0, f9⟩, fun fs hl => c11.trans (X9.ireturnOut hexec hret rfl (Or.inl rfl) (hb hbytes d46) hl)⟩
end Cmp5
namespace Cmp3
def yN : MethodName := ⟨"java/lang/StringUTF16", "compress", "([CII)[B"⟩
abbrev yB : ByteArray := jdk_52_method_16_code
theorem d0 : decode yB 0 = .ok (.iload_n 2, 1) := by decide +kernel
theorem d1 : decode yB 1 = .ok (.newarray .byte, 2) := by decide +kernel
theorem d3 : decode yB 3 = .ok (.astore_n 3, 1) := by decide +kernel
theorem d4 : decode yB 4 = .ok (.aload_n 0, 1) := by decide +kernel
theorem d5 : decode yB 5 = .ok (.iload_n 1, 1) := by decide +kernel
theorem d6 : decode yB 6 = .ok (.aload_n 3, 1) := by decide +kernel
theorem d7 : decode yB 7 = .ok (.iconst 0, 1) := by decide +kernel
theorem d8 : decode yB 8 = .ok (.iload_n 2, 1) := by decide +kernel
theorem d9 : decode yB 9 = .ok (.invokestatic 115, 3) := by decide +kernel
theorem d12 : decode yB 12 = .ok (.istore 4, 2) := by decide +kernel
theorem d14 : decode yB 14 = .ok (.iload 4, 2) := by decide +kernel
theorem d16 : decode yB 16 = .ok (.iload_n 2, 1) := by decide +kernel
theorem d17 : decode yB 17 = .ok (.if_icmp (.eq) 40, 3) := by decide +kernel
theorem d57 : decode yB 57 = .ok (.aload_n 3, 1) := by decide +kernel
theorem d58 : decode yB 58 = .ok (.areturn, 1) := by decide +kernel
def site : List Cond := [.arrayClass .byte, Cmp5.tab] ++ staticW U16 115 Cmp5.yN
def tab : Cond := tabOf yN yB 6 (some (.array .byte)) site
def P (b : Addr) (A : Cell) (o len : Nat) (args : Array Value) (s : State) : Prop := args = #[.ref b, .int (Int32.ofNat o), .int (Int32.ofNat len)] ∧ Ch b A s ∧ o + len ≤ A.slots.size ∧ len ≤ 536870912 ∧ ∀ i, i < len → ¬ 255 < cv A (o + i)
def E (b : Addr) (A : Cell) (o len : Nat) (r : Option Value) (s u : State) : Prop := NewArr .byte "[B" len (fun j => .int (lo8 (cv A (o + j)))) r s u ∧ u.heap.size = s.heap.size + 1
/-- no char of the range above 255: a new byte[] of their low bytes -/
theorem law (l : Launch) (b : Addr) (A : Cell) (o len : Nat) : Law l yN 3 3 1 18 yB 6 (some (.array .byte)) site (P b A o len) (E b A o len) [] 1 len := by
  refine Law.of_walk (plainFor_of_name (by decide +kernel)) (by decide +kernel) (by decide +kernel) (by decide) (fun _ _ h => by rw [h.1]; rfl) (fun _ U U' hal hh h => ⟨h.1, h.2.1.mv hal hh, h.2.2⟩) (fun r U U' V V' h1 hal h2 h => ⟨NewArr.mv r U U' V V' h1 hal h2 h.1, by rw [h1, h2]; exact h.2⟩) ?_
  intro p e s m args below meth c s₁ X0 hexec hbytes hml hret hlk hnm hown hh0 W hP
  obtain ⟨rfl, hA, l1, l2, hp⟩ := hP
  have a31 := hA.1.2.2.2
  have c1 : Steps p.tables e below (s₁.setTop (entryFrame m #[.ref b, .int (Int32.ofNat o), .int (Int32.ofNat len)] 6)) (s₁.setTop (mkF m 0 #[.val (.ref b), .val (.int (Int32.ofNat o)), .val (.int (Int32.ofNat len)), .unset, .unset, .unset] [])) := entry rfl
  have c2 : Steps p.tables e below (s₁.setTop (entryFrame m #[.ref b, .int (Int32.ofNat o), .int (Int32.ofNat len)] 6)) (s₁.setTop (mkF m 1 #[.val (.ref b), .val (.int (Int32.ofNat o)), .val (.int (Int32.ofNat len)), .unset, .unset, .unset] [.int (Int32.ofNat len)])) := c1.trans (by
    refine XS.iloadN X0.here hexec rfl (hb hbytes d0) rfl ?_
    exact Steps.refl _)
  obtain ⟨T3, B3, X3, ba3, bs3, bv3, bh3, bf3, st3⟩ := X0.anew hexec (atype := .byte) (wk W (.arrayClass .byte)) rfl (by show len * 1 ≤ _; omega) (by omega) (g := (mkF m 1 #[.val (.ref b), .val (.int (Int32.ofNat o)), .val (.int (Int32.ofNat len)), .unset, .unset, .unset] [.int (Int32.ofNat len)])) rfl (hb hbytes d1) (rest := []) rfl (Nat.le_refl _) (by show 0 + len ≤ len; omega)
  rw [hh0] at ba3 st3
  have kp3 : XT.Kept s T3 := (XT.Kept.of_eq hh0).push bh3
  have hA3 := hA.keep X3.warmed.alike (kp3 _ _ hA.1.1)
  have hne : b ≠ s.heap.size := hA.1.ne
  have c4 : Steps p.tables e below (s₁.setTop (entryFrame m #[.ref b, .int (Int32.ofNat o), .int (Int32.ofNat len)] 6)) (T3.setTop (mkF m 3 #[.val (.ref b), .val (.int (Int32.ofNat o)), .val (.int (Int32.ofNat len)), .unset, .unset, .unset] [.ref s.heap.size])) := c2.trans (st3 _ (Steps.refl _))
  have c5 : Steps p.tables e below (s₁.setTop (entryFrame m #[.ref b, .int (Int32.ofNat o), .int (Int32.ofNat len)] 6)) (T3.setTop (mkF m 9 #[.val (.ref b), .val (.int (Int32.ofNat o)), .val (.int (Int32.ofNat len)), .val (.ref s.heap.size), .unset, .unset] [.int (Int32.ofNat len), .int 0, .ref s.heap.size, .int (Int32.ofNat o), .ref b])) := c4.trans (by
    refine XS.astoreN X3.here hexec rfl (hb hbytes d3) rfl rfl rfl ?_
    refine XS.aloadN X3.here hexec rfl (hb hbytes d4) rfl rfl ?_
    refine XS.iloadN X3.here hexec rfl (hb hbytes d5) rfl ?_
    refine XS.aloadN X3.here hexec rfl (hb hbytes d6) rfl rfl ?_
    refine iconstV X3.here hexec rfl 0 (hb hbytes d7) (by decide) ?_
    refine XS.iloadN X3.here hexec rfl (hb hbytes d8) rfl ?_
    exact Steps.refl _)
  obtain ⟨v6, T6, X6, E6, g6⟩ := X3.callS hexec (Cmp5.law l b A s.heap.size B3 o 0 len) hown (wks W (staticW U16 115 Cmp5.yN)) (wk W Cmp5.tab) (W := 0) (Nat.le_of_ble_eq_true rfl) (Nat.le_of_ble_eq_true rfl) (Nat.le_refl _) (by show 0 + len + 0 ≤ len; omega) (g := (mkF m 9 #[.val (.ref b), .val (.int (Int32.ofNat o)), .val (.int (Int32.ofNat len)), .val (.ref s.heap.size), .unset, .unset] [.int (Int32.ofNat len), .int (Int32.ofNat 0), .ref s.heap.size, .int (Int32.ofNat o), .ref b])) rfl (by rw [hml]; rfl) c5 (argsL := [.ref b, .int (Int32.ofNat o), .ref s.heap.size, .int (Int32.ofNat 0), .int (Int32.ofNat len)]) (rest := []) rfl rfl (by show 2 * 0 + 0 ≤ _; decide) (hb hbytes d9) (⟨rfl, hA3, ba3, hne, l1, by rw [bs3]; simp, hp⟩)
  obtain ⟨rfl, B6, p6, f6⟩ := E6
  have c7 : Steps p.tables e below (s₁.setTop (entryFrame m #[.ref b, .int (Int32.ofNat o), .int (Int32.ofNat len)] 6)) (T6.setTop (mkF m 12 #[.val (.ref b), .val (.int (Int32.ofNat o)), .val (.int (Int32.ofNat len)), .val (.ref s.heap.size), .unset, .unset] [.int (Int32.ofNat len)])) := g6
  have c8 : Steps p.tables e below (s₁.setTop (entryFrame m #[.ref b, .int (Int32.ofNat o), .int (Int32.ofNat len)] 6)) (T6.setTop (mkF m 58 #[.val (.ref b), .val (.int (Int32.ofNat o)), .val (.int (Int32.ofNat len)), .val (.ref s.heap.size), .val (.int (Int32.ofNat len)), .unset] [.ref s.heap.size])) := c7.trans (by
    refine XS.istore X6.here hexec rfl (hb hbytes d12) rfl rfl ?_
    refine XS.iload X6.here hexec rfl (hb hbytes d14) rfl ?_
    refine XS.iloadN X6.here hexec rfl (hb hbytes d16) rfl ?_
    refine XS.icmpYes X6.here hexec rfl (pc0 := 17) rfl (hb hbytes d17) rfl (ii_eq_t rfl) (by decide) rfl ?_
    refine XS.aloadN X6.here hexec rfl (hb hbytes d57) rfl rfl ?_
    exact Steps.refl _)
  have X8 := X6.wide (L' := []) (cells' := 1) (slots' := len) (fun x hx hlt => by
    simp only [List.nil_append, copyLocs, List.mem_map, List.mem_range] at hx
    obtain ⟨i, -, rfl⟩ := hx
    exact absurd hlt (Nat.lt_irrefl _)) (Nat.le_refl _) (by omega)
  exact ⟨T6, some (.ref s.heap.size), _, _, _, X8, rfl, rfl, rfl, (fun h => by cases h), ⟨⟨rfl, B6, ba3.like (X3.warmed.alike.symm.trans X6.warmed.alike) p6.1 f6.1 f6.2.1 f6.2.2.1, f6.2.1.trans bv3, by rw [X6.warmed.alike.findClass, f6.1]; exact bf3, by rw [f6.2.2.1, bs3]; simp, fun j hj => by rw [f6.2.2.2 j, if_pos (by omega)]; rfl, kp3.put p6 (Nat.le_refl _)⟩, by rw [p6.2.2, bh3, hh0]; simp⟩, fun fs hl => c8.trans (X8.areturnOut hexec rfl hret rfl (hb hbytes d58) hl)⟩
end Cmp3
namespace CodL
def yN : MethodName := ⟨"java/lang/StringUTF16", "coderFromArrayLen", "([BI)B"⟩
abbrev yB : ByteArray := jdk_52_method_15_code
theorem d0 : decode yB 0 = .ok (.iload_n 1, 1) := by decide +kernel
theorem d1 : decode yB 1 = .ok (.aload_n 0, 1) := by decide +kernel
theorem d2 : decode yB 2 = .ok (.arraylength, 1) := by decide +kernel
theorem d3 : decode yB 3 = .ok (.isub, 1) := by decide +kernel
theorem d4 : decode yB 4 = .ok (.bipush 31, 2) := by decide +kernel
theorem d6 : decode yB 6 = .ok (.iushr, 1) := by decide +kernel
theorem d7 : decode yB 7 = .ok (.i2b, 1) := by decide +kernel
theorem d8 : decode yB 8 = .ok (.ireturn, 1) := by decide +kernel
def site : List Cond := []
def tab : Cond := tabOf yN yB 2 (some .byte) site
def P (d : Addr) (B : Cell) (args : Array Value) (s : State) : Prop := args = #[.ref d, .int (Int32.ofNat B.slots.size)] ∧ Arr .byte d B s
def E (r : Option Value) (s u : State) : Prop := XT.PureE (some (.int 0)) r s u
/-- an array as long as the number of chars: LATIN1 -/
theorem law (l : Launch) (d : Addr) (B : Cell) : Law l yN 2 2 0 0 yB 2 (some .byte) site (P d B) E [] 0 0 := by
  refine Law.of_walk (plainFor_of_name (by decide +kernel)) (by decide +kernel) (by decide +kernel) (by decide) (fun _ _ h => by rw [h.1]; rfl) (fun _ U U' hal hh h => ⟨h.1, h.2.mv hal hh⟩) (fun r U U' V V' h1 hal h2 h => XT.PureE.mv r U U' V V' h1 hal h2 h) ?_
  intro p e s m args below meth c s₁ X0 hexec hbytes hml hret hlk hnm hown hh0 W hP
  obtain ⟨rfl, hB⟩ := hP
  have hB0 := hB.mv X0.warmed.alike hh0
  have c1 : Steps p.tables e below (s₁.setTop (entryFrame m #[.ref d, .int (Int32.ofNat B.slots.size)] 2)) (s₁.setTop (mkF m 0 #[.val (.ref d), .val (.int (Int32.ofNat B.slots.size))] [])) := entry rfl
  have c2 : Steps p.tables e below (s₁.setTop (entryFrame m #[.ref d, .int (Int32.ofNat B.slots.size)] 2)) (s₁.setTop (mkF m 2 #[.val (.ref d), .val (.int (Int32.ofNat B.slots.size))] [.ref d, .int (Int32.ofNat B.slots.size)])) := c1.trans (by
    refine XS.iloadN X0.here hexec rfl (hb hbytes d0) rfl ?_
    refine XS.aloadN X0.here hexec rfl (hb hbytes d1) rfl rfl ?_
    exact Steps.refl _)
  have c3 : Steps p.tables e below (s₁.setTop (entryFrame m #[.ref d, .int (Int32.ofNat B.slots.size)] 2)) (s₁.setTop (mkF m 8 #[.val (.ref d), .val (.int (Int32.ofNat B.slots.size))] [.int (lo8 (ushr (Int32.ofNat B.slots.size - Int32.ofNat B.slots.size) 31))])) := c2.trans (by
    refine X0.alen hexec hB0 rfl rfl (hb hbytes d2) ?_
    refine XS.isub X0.here hexec rfl (hb hbytes d3) rfl ?_
    refine bipushV X0.here hexec rfl 31 (hb hbytes d4) (by decide) ?_
    refine iushr X0.here hexec rfl (hb hbytes d6) rfl ?_
    refine i2b X0.here hexec rfl (hb hbytes d7) rfl ?_
    exact Steps.refl _)
  have e0 : lo8 (ushr (Int32.ofNat B.slots.size - Int32.ofNat B.slots.size) 31) = 0 := by rw [Int32.sub_self]; decide
  rw [e0] at c3
  exact ⟨s₁, some (.int 0), _, _, _, X0, rfl, rfl, rfl, (fun h => by cases h), ⟨rfl, hh0⟩, fun fs hl => c3.trans (X0.ireturnOut hexec hret rfl (Or.inr (Or.inr (Or.inl rfl))) (hb hbytes d8) hl)⟩
end CodL
/-- the String at a is Latin-1 over a new byte[] (the heap's one new cell): the low bytes of the len chars of A from o on; every cell but a is kept -/
def Got (a : Addr) (D : Cell) (fV fC : Field) (A : Cell) (o len : Nat) (r : Option Value) (s u : State) : Prop := r = none ∧ ∃ D' V : Cell, Blank "java/lang/String" a D' u ∧ Same D D' [fV.slot, fC.slot] ∧ D'.slots[fV.slot]? = some (.ref s.heap.size) ∧ D'.slots[fC.slot]? = some (.int 0) ∧ Arr .byte s.heap.size V u ∧ V.vm = .none ∧ u.vm.findClass "[B" = some V.cls ∧ V.slots.size = len ∧ (∀ j, j < len → V.slots[j]? = some (.int (lo8 (cv A (o + j))))) ∧ (∀ (y : Addr) (c : Cell), y ≠ a → s.heap[y]? = some c → u.heap[y]? = some c) ∧ u.heap.size = s.heap.size + 1
theorem Got.mv {a : Addr} {D A : Cell} {fV fC : Field} {o len : Nat} : ∀ r (U U' V V' : State), U'.heap = U.heap → V.vm.Alike V'.vm → V'.heap = V.heap → Got a D fV fC A o len r U V → Got a D fV fC A o len r U' V' :=
  fun r U U' V V' h1 hal h2 ⟨e0, D', X, a1, a2, a3, a4, a5, a6, a7, a8, a9, a10, a11⟩ => ⟨e0, D', X, a1.mv hal h2, a2, by rw [h1]; exact a3, a4, by rw [h1]; exact a5.mv hal h2, a6, by rw [hal.findClass]; exact a7, a8, a9, by rw [h1, h2]; exact a10, by rw [h1, h2]; exact a11⟩
namespace New4
def yN : MethodName := ⟨"java/lang/String", "<init>", "([CIILjava/lang/Void;)V"⟩
abbrev yB : ByteArray := jdk_42_method_149_code
theorem d0 : decode yB 0 = .ok (.aload_n 0, 1) := by decide +kernel
theorem d1 : decode yB 1 = .ok (.invokespecial 1, 3) := by decide +kernel
theorem d4 : decode yB 4 = .ok (.iload_n 3, 1) := by decide +kernel
theorem d5 : decode yB 5 = .ok (.ifCond (.ne) 22, 3) := by decide +kernel
theorem d27 : decode yB 27 = .ok (.getstatic 38, 3) := by decide +kernel
theorem d30 : decode yB 30 = .ok (.ifCond (.eq) 28, 3) := by decide +kernel
theorem d33 : decode yB 33 = .ok (.aload_n 1, 1) := by decide +kernel
theorem d34 : decode yB 34 = .ok (.iload_n 2, 1) := by decide +kernel
theorem d35 : decode yB 35 = .ok (.iload_n 3, 1) := by decide +kernel
theorem d36 : decode yB 36 = .ok (.invokestatic 177, 3) := by decide +kernel
theorem d39 : decode yB 39 = .ok (.astore 5, 2) := by decide +kernel
theorem d41 : decode yB 41 = .ok (.aload_n 0, 1) := by decide +kernel
theorem d42 : decode yB 42 = .ok (.aload 5, 2) := by decide +kernel
theorem d44 : decode yB 44 = .ok (.iload_n 3, 1) := by decide +kernel
theorem d45 : decode yB 45 = .ok (.invokestatic 47, 3) := by decide +kernel
theorem d48 : decode yB 48 = .ok (.putfield 15, 3) := by decide +kernel
theorem d51 : decode yB 51 = .ok (.aload_n 0, 1) := by decide +kernel
theorem d52 : decode yB 52 = .ok (.aload 5, 2) := by decide +kernel
theorem d54 : decode yB 54 = .ok (.putfield 9, 3) := by decide +kernel
theorem d57 : decode yB 57 = .ok (.return_, 1) := by decide +kernel
def site : List Cond := [.fieldLink "java/lang/String" 38 "java/lang/String" "COMPACT_STRINGS" "Z", Cmp3.tab, CodL.tab, .laysFinal "java/lang/String" "java/lang/String" "value" "[B", .fieldLink "java/lang/String" 9 "java/lang/String" "value" "[B", .laysFinal "java/lang/String" "java/lang/String" "coder" "B", .fieldLink "java/lang/String" 15 "java/lang/String" "coder" "B"] ++ objW "java/lang/String" 1 ++ staticW "java/lang/String" 177 Cmp3.yN ++ staticW "java/lang/String" 47 CodL.yN
def tab : Cond := tabOf yN yB 6 none site
def P (a : Addr) (D : Cell) (fV fC : Field) (b : Addr) (A : Cell) (z : Int32) (o len : Nat) (args : Array Value) (s : State) : Prop := args = #[.ref a, .ref b, .int (Int32.ofNat o), .int (Int32.ofNat len), .null] ∧ Blank "java/lang/String" a D s ∧ Found "java/lang/String" "value" "[B" fV s ∧ Found "java/lang/String" "coder" "B" fC s ∧ Ch b A s ∧ StaticIs s "java/lang/String" "COMPACT_STRINGS" "Z" (.int z) ∧ ¬ z = 0 ∧ 0 < len ∧ o + len ≤ A.slots.size ∧ len ≤ 536870912 ∧ ∀ i, i < len → ¬ 255 < cv A (o + i)
def E (a : Addr) (D : Cell) (fV fC : Field) (A : Cell) (o len : Nat) (r : Option Value) (s u : State) : Prop := Got a D fV fC A o len r s u
/-- len > 0, no char of the range above 255: a Latin-1 String of their low bytes -/
theorem law (l : Launch) (a : Addr) (D : Cell) (fV fC : Field) (b : Addr) (A : Cell) (z : Int32) (o len : Nat) : Law l yN 5 4 2 35 yB 6 none site (P a D fV fC b A z o len) (E a D fV fC A o len) [⟨a, fC.slot⟩, ⟨a, fV.slot⟩] 1 len := by
  refine Law.of_walk (plainFor_of_name (by decide +kernel)) (by decide +kernel) (by decide +kernel) (by decide) (fun _ _ h => by rw [h.1]; rfl) (fun _ U U' hal hh h => ⟨h.1, h.2.1.mv hal hh, h.2.2.1.al hal, h.2.2.2.1.al hal, h.2.2.2.2.1.mv hal hh, h.2.2.2.2.2.1.there hal hh, h.2.2.2.2.2.2⟩) (fun r U U' V V' h1 hal h2 h => Got.mv r U U' V V' h1 hal h2 h) ?_
  intro p e s m args below meth c s₁ X0 hexec hbytes hml hret hlk hnm hown hh0 W hP
  obtain ⟨rfl, hB, f1, f2, hA, s1, hz, l0, l1, l2, hp⟩ := hP
  have a31 := hA.1.2.2.2
  have c1 : Steps p.tables e below (s₁.setTop (entryFrame m #[.ref a, .ref b, .int (Int32.ofNat o), .int (Int32.ofNat len), .null] 6)) (s₁.setTop (mkF m 0 #[.val (.ref a), .val (.ref b), .val (.int (Int32.ofNat o)), .val (.int (Int32.ofNat len)), .val .null, .unset] [])) := entry rfl
  have c2 : Steps p.tables e below (s₁.setTop (entryFrame m #[.ref a, .ref b, .int (Int32.ofNat o), .int (Int32.ofNat len), .null] 6)) (s₁.setTop (mkF m 1 #[.val (.ref a), .val (.ref b), .val (.int (Int32.ofNat o)), .val (.int (Int32.ofNat len)), .val .null, .unset] [.ref a])) := c1.trans (by
    refine XS.aloadN X0.here hexec rfl (hb hbytes d0) rfl rfl ?_
    exact Steps.refl _)
  obtain ⟨T3, X3, q3, st3⟩ := X0.oinit hexec hown (wks W (objW "java/lang/String" 1)) (g := (mkF m 1 #[.val (.ref a), .val (.ref b), .val (.int (Int32.ofNat o)), .val (.int (Int32.ofNat len)), .val .null, .unset] [.ref a])) rfl (by rw [hml]; rfl) (rest := []) rfl (hb hbytes d1) (W := 0) (by show 2 * 0 + 0 ≤ _; decide) (Nat.le_of_ble_eq_true rfl) (Nat.le_of_ble_eq_true rfl)
  have hh3 := q3.trans hh0
  have c4 : Steps p.tables e below (s₁.setTop (entryFrame m #[.ref a, .ref b, .int (Int32.ofNat o), .int (Int32.ofNat len), .null] 6)) (T3.setTop (mkF m 27 #[.val (.ref a), .val (.ref b), .val (.int (Int32.ofNat o)), .val (.int (Int32.ofNat len)), .val .null, .unset] [])) := (c2.trans (st3 _ (Steps.refl _))).trans (by
    refine XS.iloadN X3.here hexec rfl (hb hbytes d4) rfl ?_
    refine XS.ifYes X3.here hexec rfl (pc0 := 5) rfl (hb hbytes d5) rfl (i0_ne_t (nz32 (by omega) l0)) (by decide) rfl ?_
    exact Steps.refl _)
  obtain ⟨T5, X5, q5, st5⟩ := X3.sget hexec hown (wk W (.fieldLink "java/lang/String" 38 "java/lang/String" "COMPACT_STRINGS" "Z")) s1 (fun _ _ h => by rw [hh3]; exact h) (g := (mkF m 27 #[.val (.ref a), .val (.ref b), .val (.int (Int32.ofNat o)), .val (.int (Int32.ofNat len)), .val .null, .unset] [])) rfl (hb hbytes d27)
  have hh5 := q5.trans hh3
  have c6 : Steps p.tables e below (s₁.setTop (entryFrame m #[.ref a, .ref b, .int (Int32.ofNat o), .int (Int32.ofNat len), .null] 6)) (T5.setTop (mkF m 30 #[.val (.ref a), .val (.ref b), .val (.int (Int32.ofNat o)), .val (.int (Int32.ofNat len)), .val .null, .unset] [.int z])) := c4.trans (st5 _ (Steps.refl _))
  have c7 : Steps p.tables e below (s₁.setTop (entryFrame m #[.ref a, .ref b, .int (Int32.ofNat o), .int (Int32.ofNat len), .null] 6)) (T5.setTop (mkF m 36 #[.val (.ref a), .val (.ref b), .val (.int (Int32.ofNat o)), .val (.int (Int32.ofNat len)), .val .null, .unset] [.int (Int32.ofNat len), .int (Int32.ofNat o), .ref b])) := c6.trans (by
    refine XS.ifNo X5.here hexec rfl (hb hbytes d30) rfl (i0_eq_f hz) ?_
    refine XS.aloadN X5.here hexec rfl (hb hbytes d33) rfl rfl ?_
    refine XS.iloadN X5.here hexec rfl (hb hbytes d34) rfl ?_
    refine XS.iloadN X5.here hexec rfl (hb hbytes d35) rfl ?_
    exact Steps.refl _)
  obtain ⟨v8, T8, X8, E8, g8⟩ := X5.callS hexec (Cmp3.law l b A o len) hown (wks W (staticW "java/lang/String" 177 Cmp3.yN)) (wk W Cmp3.tab) (W := 0) (Nat.le_of_ble_eq_true rfl) (Nat.le_of_ble_eq_true rfl) (Nat.le_refl _) (by show 0 + len ≤ len; omega) (g := (mkF m 36 #[.val (.ref a), .val (.ref b), .val (.int (Int32.ofNat o)), .val (.int (Int32.ofNat len)), .val .null, .unset] [.int (Int32.ofNat len), .int (Int32.ofNat o), .ref b])) rfl (by rw [hml]; rfl) c7 (argsL := [.ref b, .int (Int32.ofNat o), .int (Int32.ofNat len)]) (rest := []) rfl rfl (by show 2 * 0 + 0 ≤ _; decide) (hb hbytes d36) (⟨rfl, hA.mv X5.warmed.alike hh5, l1, l2, hp⟩)
  obtain ⟨e8, z8⟩ := E8
  obtain ⟨rfl, N, n1, n2, n3, n4, n5, n6⟩ := NewArr.mv _ T5 s _ _ hh5.symm (Vm.Alike.refl _) rfl e8
  rw [hh5] at z8
  have hB1 := hB.keep X8.warmed.alike (n6 _ _ hB.1)
  have hne : s.heap.size ≠ a := (Nat.ne_of_lt (Array.getElem?_eq_some_iff.mp hB.1).1).symm
  have c9 : Steps p.tables e below (s₁.setTop (entryFrame m #[.ref a, .ref b, .int (Int32.ofNat o), .int (Int32.ofNat len), .null] 6)) (T8.setTop (mkF m 39 #[.val (.ref a), .val (.ref b), .val (.int (Int32.ofNat o)), .val (.int (Int32.ofNat len)), .val .null, .unset] [.ref s.heap.size])) := g8
  have c10 : Steps p.tables e below (s₁.setTop (entryFrame m #[.ref a, .ref b, .int (Int32.ofNat o), .int (Int32.ofNat len), .null] 6)) (T8.setTop (mkF m 45 #[.val (.ref a), .val (.ref b), .val (.int (Int32.ofNat o)), .val (.int (Int32.ofNat len)), .val .null, .val (.ref s.heap.size)] [.int (Int32.ofNat N.slots.size), .ref s.heap.size, .ref a])) := by
    have hc : Steps p.tables e below (s₁.setTop (entryFrame m #[.ref a, .ref b, .int (Int32.ofNat o), .int (Int32.ofNat len), .null] 6)) (T8.setTop (mkF m 45 #[.val (.ref a), .val (.ref b), .val (.int (Int32.ofNat o)), .val (.int (Int32.ofNat len)), .val .null, .val (.ref s.heap.size)] [.int (Int32.ofNat len), .ref s.heap.size, .ref a])) := c9.trans (by
      refine XS.astore X8.here hexec rfl (hb hbytes d39) rfl rfl rfl ?_
      refine XS.aloadN X8.here hexec rfl (hb hbytes d41) rfl rfl ?_
      refine XS.aload X8.here hexec rfl (hb hbytes d42) rfl rfl ?_
      refine XS.iloadN X8.here hexec rfl (hb hbytes d44) rfl ?_
      exact Steps.refl _)
    rw [n4]; exact hc
  obtain ⟨v11, T11, X11, E11, g11⟩ := X8.callS hexec (CodL.law l s.heap.size N) hown (wks W (staticW "java/lang/String" 47 CodL.yN)) (wk W CodL.tab) (W := 1) (Nat.le_of_ble_eq_true rfl) (Nat.le_of_ble_eq_true rfl) (Nat.le_refl _) (by show 0 + len + 0 ≤ len; omega) (g := (mkF m 45 #[.val (.ref a), .val (.ref b), .val (.int (Int32.ofNat o)), .val (.int (Int32.ofNat len)), .val .null, .val (.ref s.heap.size)] [.int (Int32.ofNat N.slots.size), .ref s.heap.size, .ref a])) rfl (by rw [hml]; rfl) c10 (argsL := [.ref s.heap.size, .int (Int32.ofNat N.slots.size)]) (rest := [.ref a]) rfl rfl (by show 2 * 0 + (1 + 0) ≤ _; decide) (hb hbytes d45) (⟨rfl, n1⟩)
  obtain ⟨rfl, q11⟩ := E11
  have hB11 := hB1.mv (X8.warmed.alike.symm.trans X11.warmed.alike) q11
  have c12 : Steps p.tables e below (s₁.setTop (entryFrame m #[.ref a, .ref b, .int (Int32.ofNat o), .int (Int32.ofNat len), .null] 6)) (T11.setTop (mkF m 48 #[.val (.ref a), .val (.ref b), .val (.int (Int32.ofNat o)), .val (.int (Int32.ofNat len)), .val .null, .val (.ref s.heap.size)] [.int 0, .ref a])) := g11
  obtain ⟨T13, X13, p13, bl13, sl13, st13⟩ := X11.finit hexec hown (wk W (.fieldLink "java/lang/String" 15 "java/lang/String" "coder" "B")) (Or.inr ⟨_, (wk W (.laysFinal "java/lang/String" "java/lang/String" "coder" "B"))⟩) (Or.inl ⟨rfl, hnm⟩) f2 (Or.inl rfl) hB11 (t := .byte) (by decide +kernel) rfl (g := (mkF m 48 #[.val (.ref a), .val (.ref b), .val (.int (Int32.ofNat o)), .val (.int (Int32.ofNat len)), .val .null, .val (.ref s.heap.size)] [.int 0, .ref a])) rfl (rest := []) rfl (hb hbytes d48)
  have c14 : Steps p.tables e below (s₁.setTop (entryFrame m #[.ref a, .ref b, .int (Int32.ofNat o), .int (Int32.ofNat len), .null] 6)) (T13.setTop (mkF m 54 #[.val (.ref a), .val (.ref b), .val (.int (Int32.ofNat o)), .val (.int (Int32.ofNat len)), .val .null, .val (.ref s.heap.size)] [.ref s.heap.size, .ref a])) := (c12.trans (st13 _ (Steps.refl _))).trans (by
    refine XS.aloadN X13.here hexec rfl (hb hbytes d51) rfl rfl ?_
    refine XS.aload X13.here hexec rfl (hb hbytes d52) rfl rfl ?_
    exact Steps.refl _)
  obtain ⟨T15, X15, p15, bl15, sl15, st15⟩ := X13.finit hexec hown (wk W (.fieldLink "java/lang/String" 9 "java/lang/String" "value" "[B")) (Or.inr ⟨_, (wk W (.laysFinal "java/lang/String" "java/lang/String" "value" "[B"))⟩) (Or.inl ⟨rfl, hnm⟩) f1 (Or.inl rfl) bl13 (t := (.array .byte)) (by decide +kernel) rfl (g := (mkF m 54 #[.val (.ref a), .val (.ref b), .val (.int (Int32.ofNat o)), .val (.int (Int32.ofNat len)), .val .null, .val (.ref s.heap.size)] [.ref s.heap.size, .ref a])) rfl (rest := []) rfl (hb hbytes d54)
  have c16 : Steps p.tables e below (s₁.setTop (entryFrame m #[.ref a, .ref b, .int (Int32.ofNat o), .int (Int32.ofNat len), .null] 6)) (T15.setTop (mkF m 57 #[.val (.ref a), .val (.ref b), .val (.int (Int32.ofNat o)), .val (.int (Int32.ofNat len)), .val .null, .val (.ref s.heap.size)] [])) := c14.trans (st15 _ (Steps.refl _))
  have ap := apart (Or.inr ⟨_, (wk W (.laysFinal "java/lang/String" "java/lang/String" "value" "[B"))⟩) (Or.inr ⟨_, (wk W (.laysFinal "java/lang/String" "java/lang/String" "coder" "B"))⟩) f1 f2 (t₁ := .array .byte) (t₂ := .byte) (by decide +kernel) (by decide +kernel) (by decide)
  have al := X8.warmed.alike.symm.trans X15.warmed.alike
  have n7 : T11.heap[s.heap.size]? = some N := by rw [q11]; exact n1.1
  exact ⟨T15, none, _, _, _, X15, by simp, rfl, by omega, (fun _ => rfl), ⟨rfl, _, N, bl15, ((Same.refl D _).set _ (by simp)).set _ (by simp), sl15, (Cell.slots_setSlot_ne _ ap).trans sl13, n1.keep al (p15.other hne (p13.other hne n7)), n2, by rw [al.findClass]; exact n3, n4, n5, fun y c h1 h2 => p15.other h1 (p13.other h1 (by rw [q11]; exact n6 y c h2)), by rw [p15.2.2, p13.2.2, q11]; exact z8⟩, fun fs hl => c16.trans (X15.returnOut hexec hret (hb hbytes d57) hl)⟩
end New4
namespace New1
def yN : MethodName := ⟨"java/lang/String", "<init>", "([C)V"⟩
abbrev yB : ByteArray := jdk_42_method_3_code
theorem d0 : decode yB 0 = .ok (.aload_n 0, 1) := by decide +kernel
theorem d1 : decode yB 1 = .ok (.aload_n 1, 1) := by decide +kernel
theorem d2 : decode yB 2 = .ok (.iconst 0, 1) := by decide +kernel
theorem d3 : decode yB 3 = .ok (.aload_n 1, 1) := by decide +kernel
theorem d4 : decode yB 4 = .ok (.arraylength, 1) := by decide +kernel
theorem d5 : decode yB 5 = .ok (.aconst_null, 1) := by decide +kernel
theorem d6 : decode yB 6 = .ok (.invokespecial 27, 3) := by decide +kernel
theorem d9 : decode yB 9 = .ok (.return_, 1) := by decide +kernel
def site : List Cond := [New4.tab] ++ initW "java/lang/String" 27 New4.yN
def tab : Cond := tabOf yN yB 2 none site
def P (a : Addr) (D : Cell) (fV fC : Field) (b : Addr) (A : Cell) (z : Int32) (args : Array Value) (s : State) : Prop := args = #[.ref a, .ref b] ∧ Blank "java/lang/String" a D s ∧ Found "java/lang/String" "value" "[B" fV s ∧ Found "java/lang/String" "coder" "B" fC s ∧ Ch b A s ∧ StaticIs s "java/lang/String" "COMPACT_STRINGS" "Z" (.int z) ∧ ¬ z = 0 ∧ 0 < A.slots.size ∧ A.slots.size ≤ 536870912 ∧ ∀ i, i < A.slots.size → ¬ 255 < cv A i
def E (a : Addr) (D : Cell) (fV fC : Field) (A : Cell) (r : Option Value) (s u : State) : Prop := Got a D fV fC A 0 A.slots.size r s u
/-- new String(chars), not empty, no char above 255: a Latin-1 String of their low bytes -/
theorem law (l : Launch) (a : Addr) (D : Cell) (fV fC : Field) (b : Addr) (A : Cell) (z : Int32) : Law l yN 2 1 3 52 yB 2 none site (P a D fV fC b A z) (E a D fV fC A) [⟨a, fC.slot⟩, ⟨a, fV.slot⟩] 1 A.slots.size := by
  refine Law.of_walk (plainFor_of_name (by decide +kernel)) (by decide +kernel) (by decide +kernel) (by decide) (fun _ _ h => by rw [h.1]; rfl) (fun _ U U' hal hh h => ⟨h.1, h.2.1.mv hal hh, h.2.2.1.al hal, h.2.2.2.1.al hal, h.2.2.2.2.1.mv hal hh, h.2.2.2.2.2.1.there hal hh, h.2.2.2.2.2.2⟩) (fun r U U' V V' h1 hal h2 h => Got.mv r U U' V V' h1 hal h2 h) ?_
  intro p e s m args below meth c s₁ X0 hexec hbytes hml hret hlk hnm hown hh0 W hP
  obtain ⟨rfl, hB, f1, f2, hA, s1, hz, l0, l2, hp⟩ := hP
  have c1 : Steps p.tables e below (s₁.setTop (entryFrame m #[.ref a, .ref b] 2)) (s₁.setTop (mkF m 0 #[.val (.ref a), .val (.ref b)] [])) := entry rfl
  have c2 : Steps p.tables e below (s₁.setTop (entryFrame m #[.ref a, .ref b] 2)) (s₁.setTop (mkF m 6 #[.val (.ref a), .val (.ref b)] [.null, .int (Int32.ofNat A.slots.size), .int 0, .ref b, .ref a])) := c1.trans (by
    refine XS.aloadN X0.here hexec rfl (hb hbytes d0) rfl rfl ?_
    refine XS.aloadN X0.here hexec rfl (hb hbytes d1) rfl rfl ?_
    refine iconstV X0.here hexec rfl 0 (hb hbytes d2) (by decide) ?_
    refine XS.aloadN X0.here hexec rfl (hb hbytes d3) rfl rfl ?_
    refine X0.alen hexec (hA.1.mv X0.warmed.alike hh0) rfl rfl (hb hbytes d4) ?_
    refine XS.aconstNull X0.here hexec rfl (hb hbytes d5) ?_
    exact Steps.refl _)
  obtain ⟨v3, T3, X3, E3, g3⟩ := X0.callN hexec (New4.law l a D fV fC b A z 0 A.slots.size) rfl hown (wks W (initW "java/lang/String" 27 New4.yN)) (W New4.tab (by simp only [site, List.mem_cons, List.mem_append, true_or, or_true])) (W := 0) (Nat.le_of_ble_eq_true rfl) (Nat.le_of_ble_eq_true rfl) (Nat.le_refl _) (by show 0 + A.slots.size ≤ A.slots.size; omega) (g := (mkF m 6 #[.val (.ref a), .val (.ref b)] [.null, .int (Int32.ofNat A.slots.size), .int (Int32.ofNat 0), .ref b, .ref a])) rfl (by rw [hml]; rfl) c2 (argsL := [.ref b, .int (Int32.ofNat 0), .int (Int32.ofNat A.slots.size), .null]) (rest := []) rfl rfl (by show 2 * 0 + 0 ≤ _; decide) (hb hbytes d6) (⟨rfl, hB.mv X0.warmed.alike hh0, f1.al X0.warmed.alike, f2.al X0.warmed.alike, hA.mv X0.warmed.alike hh0, s1.there X0.warmed.alike hh0, hz, l0, by omega, l2, fun i hi => by rw [Nat.zero_add]; exact hp i hi⟩)
  have e0 := Got.mv _ s₁ s _ _ hh0.symm (Vm.Alike.refl _) rfl E3
  obtain rfl := e0.1
  have c4 : Steps p.tables e below (s₁.setTop (entryFrame m #[.ref a, .ref b] 2)) (T3.setTop (mkF m 9 #[.val (.ref a), .val (.ref b)] [])) := g3
  exact ⟨T3, none, _, _, _, X3, by simp, rfl, by omega, (fun _ => rfl), e0, fun fs hl => c4.trans (X3.returnOut hexec hret (hb hbytes d9) hl)⟩
theorem pays {l : Launch} {R : Room} {p : Program} {e : Env} {below : List Frame} {s : State} {sargs : Array Value} {len W : Nat} (a : Addr) (D : Cell) (fV fC : Field) (b : Addr) (A : Cell) (z : Int32) (htab : tab.before sargs s = true) (hfr : 4 ≤ R.frames) (hlo : W + 65 ≤ R.locals) :
    Back l R p e below s sargs yN len W (fun A₁ a₁ => A₁.cells + 1 ≤ R.cells ∧ A₁.slots + A.slots.size ≤ R.slots ∧ P a D fV fC b A z a₁ A₁.U) (fun A₁ _ v₁ B₁ => E a D fV fC A v₁ A₁.U B₁.U ∧ B₁.locs = A₁.locs ++ [⟨a, fC.slot⟩, ⟨a, fV.slot⟩] ∧ B₁.cells = A₁.cells + 1 ∧ B₁.slots = A₁.slots + A.slots.size) :=
  (law l a D fV fC b A z).pays htab hfr (by omega)
end New1
end StrChars
namespace StrChars.Road
open Jvm Sem ClassFile Op Lib Jvm.Stand Jvm.Free Jvm.Free.XT
open Jvm.Lib.Cold (StaticIs)
abbrev ST : String := "java/lang/String"
/-- every table word that New1's law asks, flat -/
abbrev words : List Jvm.Cond := [.code New1.yN New1.yB 2 none, .initialized ST, .methodLink ST 27 New4.yN, .instanceMethod New4.yN,
  .code New4.yN New4.yB 6 none, .fieldLink ST 38 ST "COMPACT_STRINGS" "Z", .laysFinal ST ST "value" "[B", .fieldLink ST 9 ST "value" "[B", .laysFinal ST ST "coder" "B", .fieldLink ST 15 ST "coder" "B",
  .methodLink ST 1 Lib.objectInit, .instanceMethod Lib.objectInit, .code Lib.objectInit ⟨#[0xb1]⟩ 1 none, .methodLink ST 177 Cmp3.yN, .static Cmp3.yN, .methodLink ST 47 CodL.yN, .static CodL.yN,
  .code Cmp3.yN Cmp3.yB 6 (some (.array .byte)), .initialized U16, .arrayClass .byte, .methodLink U16 115 Cmp5.yN, .static Cmp5.yN, .code Cmp5.yN Cmp5.yB 7 (some .int), .code CodL.yN CodL.yB 2 (some .byte)]
theorem tab_of {a : Array Value} {s : State} (h : ∀ w ∈ words, w.before a s = true) : New1.tab.before a s = true := by
  have h5 : Cmp5.tab.before a s = true := unparts (wk h (.code Cmp5.yN Cmp5.yB 7 (some .int))) (wks h (.initialized Cmp5.yN.cls :: Cmp5.site))
  have hc : CodL.tab.before a s = true := unparts (wk h (.code CodL.yN CodL.yB 2 (some .byte))) (wks h (.initialized CodL.yN.cls :: CodL.site))
  have q5 : ∀ w ∈ Cmp5.tab :: words, w.before a s = true := fun w hw => (List.mem_cons.mp hw).elim (fun e => e ▸ h5) (h w)
  have h3 : Cmp3.tab.before a s = true := unparts (wk q5 (.code Cmp3.yN Cmp3.yB 6 (some (.array .byte)))) (wks q5 (.initialized Cmp3.yN.cls :: Cmp3.site))
  have q3 : ∀ w ∈ Cmp3.tab :: CodL.tab :: words, w.before a s = true := fun w hw => (List.mem_cons.mp hw).elim (fun e => e ▸ h3) fun hw => (List.mem_cons.mp hw).elim (fun e => e ▸ hc) (h w)
  have h4 : New4.tab.before a s = true := unparts (wk q3 (.code New4.yN New4.yB 6 none)) (wks q3 (.initialized New4.yN.cls :: New4.site))
  have q4 : ∀ w ∈ New4.tab :: words, w.before a s = true := fun w hw => (List.mem_cons.mp hw).elim (fun e => e ▸ h4) (h w)
  exact unparts (wk q4 (.code New1.yN New1.yB 2 none)) (wks q4 (.initialized New1.yN.cls :: New1.site))
/-- the words ride from the start Z to the walk's own state -/
theorem moved {Z s : State} {a0 args : Array Value} (hZ : Z.Warmed39 s.vm) (hw : ∀ d ∈ words, d.before a0 Z = true) : ∀ d ∈ words, d.before args s = true := fun d hd => by
  have q := hw d hd
  have t : ∀ d ∈ words, d = .arrayClass .byte ∨ (d.onTables && d.keepsFace) = true := by decide +kernel
  rcases t d hd with rfl | t
  · exact RoadKit.mvA hZ q
  · exact RoadKit.mv hZ q t
/-- WHAT COMES BACK, over the tables of the start Z: h the heap at the call, h' behind it -/
def Q (Z : State) (x : Addr) (A : Cell) (h : Heap) (v : Option Value) (h' : Heap) (L : List Loc) : Prop := v = none ∧ (∀ y ∈ L, y.base = x) ∧ RoadKit.Keep h h' [x] ∧ h'.size = h.size + 1 ∧ RoadKit.Exa Z h' x ST ∧ RoadKit.Fld Z h' x ST "value" "[B" (.ref h.size) ∧ RoadKit.Fld Z h' x ST "coder" "B" (.int 0) ∧
  (∃ V : Cell, RoadKit.Arr Z h' h.size V .byte ∧ V.vm = .none ∧ Z.vm.findClass "[B" = some V.cls ∧ V.slots.size = A.slots.size ∧ ∀ j, j < A.slots.size → V.slots[j]? = some (.int (lo8 (cv A j)))) ∧
  ∀ (O n d : String) (w : Value), RoadKit.Fld Z h x O n d w → RoadKit.slotOf Z O n d ≠ RoadKit.slotOf Z ST "value" "[B" → RoadKit.slotOf Z O n d ≠ RoadKit.slotOf Z ST "coder" "B" → RoadKit.Fld Z h' x O n d w
/-- **new String(chars) AT A CALL, IN THE ROAD'S FORM**: for specialBack behind newO: x the fresh String, b the char[] with the cell A -/
theorem back {p : Program} {l : Launch} {e : Env} {R : Room} {s : State} {args : Array Value} {below : List Frame} {len W : Nat} {Z : State} {a0 : Array Value} {h : Heap} (hZ : Z.Warmed39 s.vm) (hw : ∀ d ∈ words, d.before a0 Z = true) {kI : Nat} (wi : (Jvm.Cond.instantiable ST kI).before a0 Z = true)
    {x b : Addr} {A : Cell} {z : Int32} {v0 c0 : Value} (E : RoadKit.Exa Z h x ST) (V : RoadKit.Fld Z h x ST "value" "[B" v0) (C : RoadKit.Fld Z h x ST "coder" "B" c0) (K : RoadKit.Arr Z h b A .char) (hty : Typed .char A) (S : RoadKit.Sta Z h ST "COMPACT_STRINGS" "Z" (.int z)) (hz : ¬ z = 0)
    (l0 : 0 < A.slots.size) (l2 : A.slots.size ≤ 536870912) (hp : ∀ i, i < A.slots.size → ¬ 255 < cv A i) (hfr : 4 ≤ R.frames) (hlo : W + 65 ≤ R.locals) :
    Back l R p e below s args New1.yN len W (fun P a => a = #[.ref x, .ref b] ∧ P.U.heap = h ∧ P.cells + 1 ≤ R.cells ∧ P.slots + A.slots.size ≤ R.slots)
      (fun P _ v B => ∃ L, Q Z x A h v B.U.heap L ∧ B.locs = P.locs ++ L ∧ B.cells = P.cells + 1 ∧ B.slots = P.slots + A.slots.size) := by
  intro m meth c P g ig mk a X hg hsize hdg hW hn hp'
  obtain ⟨rfl, rfl, r1, r2⟩ := hp'
  have al : Z.vm.Alike P.U.vm := hZ.alike.trans X.warmed.alike
  obtain ⟨D, cfV, kV, iV, fV, hD, gV, stV, knV, obV, asV, slV⟩ := id V
  obtain ⟨D', cfC, kC, iC, fC, hD', gC, stC, -, -, asC, slC⟩ := id C
  cases hD.symm.trans hD'
  obtain ⟨D2, kD, e1, e2, e3, e4, e5⟩ := id E
  cases hD.symm.trans e1
  obtain ⟨c2, k2, i1, i2, i3, -⟩ := Cond.instantiable_spec wi
  cases e2.symm.trans i1
  cases e3.symm.trans i2
  obtain ⟨kU, u1, u2⟩ := al.2.2 _ _ e3
  have hB : Blank ST x D P.U := ⟨hD, ⟨knV, fun q hq => by rw [hq] at obV; cases obV⟩, by rw [al.findClass]; exact e2, kU, u1, by rw [u2]; exact i3, by rw [u2]; exact e5 i3⟩
  have F1 : Found ST "value" "[B" fV P.U := ⟨SBG.found_only al ⟨cfV, kV, iV, gV⟩, stV⟩
  have F2 : Found ST "coder" "B" fC P.U := ⟨SBG.found_only al ⟨cfC, kC, iC, gC⟩, stC⟩
  have hA : Ch b A P.U := ⟨⟨K.1, State.isArrayOf_alike al K.2.1, K.2.2, by omega⟩, hty⟩
  have hS : StaticIs P.U ST "COMPACT_STRINGS" "Z" (.int z) := by
    obtain ⟨cfS, iS, kS, fS, st, cS, t1, t2, t3, t4, t5, t6, t7⟩ := S
    exact StaticIs.there (s := { Z with heap := P.U.heap }) ⟨cfS, iS, kS, fS, st, cS, t1, t2, t3, t4, t5, (fun q => by rw [q] at t6; cases t6), t7⟩ al rfl
  obtain ⟨v, B, X', ⟨⟨hv, E', V', q1, q2, q3, q4, q5, q6, q7, q8, q9, q10, q11⟩, hl, hc, hs⟩, st⟩ := New1.pays x D fV fC b A z (tab_of (moved hZ hw)) hfr hlo m meth c P g ig mk _ X hg hsize hdg hW hn ⟨r1, r2, rfl, hB, F1, F2, hA, hS, hz, l0, l2, hp⟩
  have al' : Z.vm.Alike B.U.vm := hZ.alike.trans X'.warmed.alike
  have hsz : E'.slots.size = D.slots.size := by
    obtain ⟨-, -, -, kB, w1, w2, w3⟩ := q1
    obtain ⟨kB', y1, y2⟩ := al'.2.2 _ _ e3
    rw [q2.2.1] at w1
    cases w1.symm.trans y1
    rw [w3, e5 i3, y2]
  refine ⟨v, B, X', ⟨_, ⟨hv, ?_, ⟨by omega, fun y cy hy hn' => q10 y cy (by simpa using hn') hy, fun y cy hy => ?_⟩, q11, ⟨E', _, q1.1, by rw [q2.2.1]; exact e2, by rw [q2.2.1]; exact e3, by rw [q2.1]; exact obV, fun _ => by rw [hsz]; exact e5 i3⟩,
    ⟨E', cfV, kV, iV, fV, q1.1, gV, stV, by rw [q2.1]; exact knV, by rw [q2.1]; exact obV, by rw [q2.2.1]; exact asV, q3⟩, ⟨E', cfC, kC, iC, fC, q1.1, gC, stC, by rw [q2.1]; exact knV, by rw [q2.1]; exact obV, by rw [q2.2.1]; exact asC, q4⟩,
    ⟨V', ⟨q5.1, State.isArrayOf_alike al'.symm q5.2.1, q5.2.2.1⟩, q6, by rw [← al'.findClass]; exact q7, q8, fun j hj => by have := q9 j hj; rwa [Nat.zero_add] at this⟩, fun O n d w F n1 n2 => ?_⟩, hl, hc, hs⟩, st⟩
  · intro y hy
    simp only [List.mem_cons, List.not_mem_nil, or_false] at hy
    rcases hy with rfl | rfl <;> rfl
  · by_cases q : y = x
    · subst q
      cases hD.symm.trans hy
      exact ⟨E', q1.1, q2.2.1, q2.1, hsz⟩
    · exact ⟨cy, q10 y cy q hy, rfl, rfl, rfl⟩
  · obtain ⟨D3, cf, k, i, f, g1, g2, g3, g4, g5, g6, g7⟩ := F
    cases hD.symm.trans g1
    simp only [RoadKit.slotOf, g2, gV, gC, Option.map_some, Option.getD_some] at n1 n2
    exact ⟨E', cf, k, i, f, q1.1, g2, g3, by rw [q2.1]; exact g4, by rw [q2.1]; exact g5, by rw [q2.2.1]; exact g6, by rw [q2.2.2 f.slot (by simp [n1, n2])]; exact g7⟩
end StrChars.Road
namespace StrChars.Road
open Jvm Sem ClassFile Op Lib Jvm.Stand Jvm.Free Jvm.Free.XT
/-- WHAT COMES BACK, the byte[] as a list of values -/
def QA (Z : State) (x : Addr) (zn : Int32) (cs : List Int32) (h : Heap) (v : Option Value) (h' : Heap) (L : List Loc) : Prop := v = none ∧ (∀ y ∈ L, y.base = x) ∧ RoadKit.Keep h h' [x] ∧ h'.size = h.size + 1 ∧ RoadKit.Exa Z h' x ST ∧ RoadKit.Fld Z h' x ST "value" "[B" (.ref h.size) ∧ RoadKit.Fld Z h' x ST "coder" "B" (.int 0) ∧
  (∃ kb, Z.vm.findClass "[B" = some kb ∧ RoadKit.Arv Z h' h.size kb .byte zn (cs.map fun c => .int (lo8 c)) (.int 0)) ∧
  ∀ (O n d : String) (w : Value), RoadKit.Fld Z h x O n d w → RoadKit.slotOf Z O n d ≠ RoadKit.slotOf Z ST "value" "[B" → RoadKit.slotOf Z O n d ≠ RoadKit.slotOf Z ST "coder" "B" → RoadKit.Fld Z h' x O n d w
/-- **new String(chars) AT A CALL, THE ARRAYS AS LISTS**: the char[] at b holds cs, not empty, no char above 255 -/
theorem backArv {p : Program} {l : Launch} {e : Env} {R : Room} {s : State} {args : Array Value} {below : List Frame} {len W : Nat} {Z : State} {a0 : Array Value} {h : Heap} (hZ : Z.Warmed39 s.vm) (hw : ∀ d ∈ words, d.before a0 Z = true) {kI : Nat} (wi : (Jvm.Cond.instantiable ST kI).before a0 Z = true)
    {x b : Addr} {k : ClassId} {zn z : Int32} {cs : List Int32} {dv v0 c0 : Value} (E : RoadKit.Exa Z h x ST) (V : RoadKit.Fld Z h x ST "value" "[B" v0) (C : RoadKit.Fld Z h x ST "coder" "B" c0) (K : RoadKit.Arv Z h b k .char zn (cs.map Value.int) dv) (S : RoadKit.Sta Z h ST "COMPACT_STRINGS" "Z" (.int z)) (hz : ¬ z = 0)
    (hlen : zn.toNatClampNeg = cs.length) (h0 : 0 < cs.length) (hbig : cs.length ≤ 536870912) (hall : ∀ c ∈ cs, ¬ 255 < c) (hfr : 4 ≤ R.frames) (hlo : W + 65 ≤ R.locals) :
    Back l R p e below s args New1.yN len W (fun P a => a = #[.ref x, .ref b] ∧ P.U.heap = h ∧ P.cells + 1 ≤ R.cells ∧ P.slots + cs.length ≤ R.slots)
      (fun P _ v B => ∃ L, QA Z x zn cs h v B.U.heap L ∧ B.locs = P.locs ++ L ∧ B.cells = P.cells + 1 ∧ B.slots = P.slots + cs.length) := by
  obtain ⟨A, K1, K2, K3, K4, K5, K6⟩ := K
  have e : A.slots.size = cs.length := K3.trans hlen
  have hat : ∀ (i : Nat) (hi : i < cs.length), A.slots[i]? = some (.int cs[i]) := fun i hi => by rw [K5 i (by omega)]; simp [List.getD_eq_getElem?_getD, hi]
  have hcv : ∀ (i : Nat) (hi : i < cs.length), cv A i = cs[i] := fun i hi => by unfold cv; rw [hat i hi]
  have hty : Typed .char A := fun i v hv => by
    have hi : i < A.slots.size := (Array.getElem?_eq_some_iff.mp hv).1
    have q := K5 i hi
    rw [hv] at q
    rw [Option.some.inj q]
    exact K6 i hi
  refine Back.mono (back hZ hw wi E V C K1 hty S hz (by omega) (by omega) (fun i hi => by rw [hcv i (by omega)]; exact hall _ (List.getElem_mem _)) hfr hlo) (fun P a hp => ⟨hp.1, hp.2.1, hp.2.2.1, by rw [e]; exact hp.2.2.2⟩) (fun P a v B hp hq => ?_)
  obtain ⟨L, ⟨q1, q2, q3, q4, q5, q6, q7, ⟨V', v1, v2, v3, v4, v5⟩, q9⟩, hl, hc, hs⟩ := hq
  refine ⟨L, ⟨q1, q2, q3, q4, q5, q6, q7, ⟨V'.cls, v3, V', v1, rfl, by rw [v4, e, hlen], K4, fun i hi => ?_, fun i hi => ?_⟩, q9⟩, hl, hc, by rw [hs, e]⟩
  · have hi' : i < cs.length := by omega
    rw [v5 i (by omega), hcv i hi']; simp [List.getD_eq_getElem?_getD, hi']
  · have hi' : i < cs.length := by omega
    simp only [List.getD_eq_getElem?_getD, List.getElem?_map, List.getElem?_eq_getElem hi', Option.map_some, Option.getD_some]
    exact fits_lo8 _
end StrChars.Road
namespace StrChars.Road
open Jvm Sem ClassFile Op Lib Jvm.Stand Jvm.Free Jvm.Free.XT
/-- WHAT COMES BACK, in the writer's own shape -/
def QV (Z : State) (x : Addr) (N : Int32) (bs : List Int32) (h : Heap) (n0 : Nat) (v : Option Value) (h' : Heap) (L : List Loc) : Prop := v = none ∧ RoadKit.Fr n0 L ∧ RoadKit.Keep h h' [x] ∧ RoadKit.Exa Z h' x ST ∧ RoadKit.Fld Z h' x ST "coder" "B" (.int 0) ∧
  ∃ (t : Addr) (kb : ClassId), n0 ≤ t ∧ h.size ≤ t ∧ ¬ t = x ∧ RoadKit.Fld Z h' x ST "value" "[B" (.ref t) ∧ RoadKit.Arv Z h' t kb .byte N (bs.map Value.int) (.int 0)
/-- **new String(chars) AT A CALL, FOR THE WRITER**: a char[] of n known ints, each 0 to 255 -/
theorem backV {p : Program} {l : Launch} {e : Env} {R : Room} {s : State} {args : Array Value} {below : List Frame} {len W : Nat} {Z : State} {a0 : Array Value} {h : Heap} (hZ : Z.Warmed39 s.vm) (hw : ∀ d ∈ words, d.before a0 Z = true) {kI : Nat} (wi : (Jvm.Cond.instantiable ST kI).before a0 Z = true)
    {x b : Addr} {kC : ClassId} {cs bs : List Int32} {d v0 c0 : Value} {z N : Int32} {n n0 : Nat} (hx0 : n0 ≤ x) (hh0 : n0 ≤ h.size) (E : RoadKit.Exa Z h x ST) (V : RoadKit.Fld Z h x ST "value" "[B" v0) (C : RoadKit.Fld Z h x ST "coder" "B" c0) (K : RoadKit.Arv Z h b kC .char N (cs.map Value.int) d) (S : RoadKit.Sta Z h ST "COMPACT_STRINGS" "Z" (.int z)) (hz : ¬ z = 0)
    (hn : cs.length = n) (hN : N = Int32.ofNat n) (l0 : 0 < n) (l2 : n ≤ 4000) (hp : ∀ c ∈ cs, ¬ c < 0 ∧ ¬ (255 : Int32) < c) (hb : bs = cs.map (fun c => c.toInt8.toInt32)) (hfr : 4 ≤ R.frames) (hlo : W + 65 ≤ R.locals) :
    Back l R p e below s args (⟨"java/lang/String", "<init>", "([C)V"⟩ : MethodName) len W (fun P a => a = #[.ref x, .ref b] ∧ P.U.heap = h ∧ P.cells + 1 ≤ R.cells ∧ P.slots + n ≤ R.slots)
      (fun P _ v B => ∃ L, QV Z x N bs h n0 v B.U.heap L ∧ B.locs = P.locs ++ L ∧ B.cells = P.cells + 1 ∧ B.slots = P.slots + n) := by
  subst hn hN hb
  refine Back.mono (backArv hZ hw wi E V C K S hz (n32 (by omega)) l0 (by omega) (fun c hc => (hp c hc).2) hfr hlo) (fun P a hp => hp) (fun P a v B hp hq => ?_)
  obtain ⟨L, ⟨q1, q2, q3, q4, q5, q6, q7, ⟨kb, v1, v2⟩, q9⟩, hl, hc, hs⟩ := hq
  exact ⟨L, ⟨q1, fun y hy => by rw [q2 y hy]; exact hx0, q3, q5, q7, h.size, kb, hh0, Nat.le_refl _, Nat.ne_of_gt E.lt, q6, by rw [List.map_map]; exact v2⟩, hl, hc, hs⟩
end StrChars.Road
end Jvm.Pilot.@@N@@

namespace Jvm.Pilot.@@N@@
open Jvm Jvm.ClassFile Sem Op Lib Jvm.Free Jvm.Stand Jvm.LawKit Jvm.RoadKit Bundle Jvm.Pilot.@@N@@.Jvm.D
def own_To (p : Program) (l : Launch) (e : Env) (R : Room) (s : State) (m : MethodId) (args : Array Value) (below : List Frame) (meth : Method) (c : Code) (locs : List Loc) (cells slots : Nat) (h : Heap) (T : State) (g g' : JFrame) : Prop :=
  ∃ T' : State, Stand p l e R s m args below meth c T' locs cells slots ∧ T'.heap = h ∧ ∀ tg, Steps p.tables e below (T'.setTop g') tg → Steps p.tables e below (T.setTop g) tg
theorem own_to {p : Program} {l : Launch} {e : Env} {R : Room} {s : State} {m : MethodId} {args : Array Value} {below : List Frame} {meth : Method} {c : Code} {T : State} {locs : List Loc} {cells slots : Nat} (X : Stand p l e R s m args below meth c T locs cells slots) {h : Heap} {g g' : JFrame}
    (H : own_To p l e R s m args below meth c locs cells slots h T g g') : ∃ T' : State, Stand p l e R s m args below meth c T' locs cells slots ∧ T'.heap = h ∧ ∀ tg, Steps p.tables e below (T'.setTop g') tg → Steps p.tables e below (T.setTop g) tg := H
def own_ToP (p : Program) (l : Launch) (e : Env) (R : Room) (s : State) (m : MethodId) (args : Array Value) (below : List Frame) (meth : Method) (c : Code) (locs : List Loc) (cells slots : Nat) (h : Heap) (T : State) (g : JFrame) (P : JFrame → Prop) : Prop :=
  ∃ (T' : State) (g' : JFrame), P g' ∧ Stand p l e R s m args below meth c T' locs cells slots ∧ T'.heap = h ∧ ∀ tg, Steps p.tables e below (T'.setTop g') tg → Steps p.tables e below (T.setTop g) tg
def own_ToK (p : Program) (l : Launch) (e : Env) (R : Room) (s : State) (m : MethodId) (args : Array Value) (below : List Frame) (meth : Method) (c : Code) (n0 : Nat) (cells slots : Nat) (T : State) (g : JFrame) (P : Heap → JFrame → Prop) : Prop :=
  ∃ (T' : State) (g' : JFrame) (L : List Loc), Stand p l e R s m args below meth c T' L cells slots ∧ Fr n0 L ∧ P T'.heap g' ∧ ∀ tg, Steps p.tables e below (T'.setTop g') tg → Steps p.tables e below (T.setTop g) tg
theorem own_wid {p : Program} {l : Launch} {e : Env} {R : Room} {s : State} {m : MethodId} {args : Array Value} {below : List Frame} {meth : Method} {c : Code} {T : State} {locs : List Loc} {cells slots cells' slots' : Nat} (X : Stand p l e R s m args below meth c T locs cells slots) (h1 : cells ≤ cells') (h2 : slots ≤ slots') : Stand p l e R s m args below meth c T locs cells' slots' := { X with same := X.same.mono h1 h2 }
theorem own_inc (i : Nat) : Int32.ofNat i + (1 : Int32) = Int32.ofNat (i + 1) := (Int32.ofNat_add i 1).symm
theorem own_toI {i : Nat} (h : i < 2147483648) : (Int32.ofNat i).toInt = (i : Int) := Int32.toInt_ofNat_of_lt h
theorem own_lt {i j : Nat} (h : i < j) (hj : j < 2147483648) : Int32.ofNat i < Int32.ofNat j := by
  rw [Int32.lt_iff_toInt_lt, own_toI (by omega), own_toI hj]; omega
theorem own_nlt {i j : Nat} (h : ¬ i < j) (hi : i < 2147483648) : ¬ Int32.ofNat i < Int32.ofNat j := by
  rw [Int32.lt_iff_toInt_lt, own_toI hi, own_toI (by omega)]; omega
theorem own_ltI {i j : Nat} (h : Int32.ofNat i < Int32.ofNat j) (hi : i < 2147483648) (hj : j < 2147483648) : i < j := by
  rw [Int32.lt_iff_toInt_lt, own_toI hi, own_toI hj] at h; omega
theorem own_nltI {i j : Nat} (h : ¬ Int32.ofNat i < Int32.ofNat j) (hi : i < 2147483648) (hj : j < 2147483648) : ¬ i < j := by
  rw [Int32.lt_iff_toInt_lt, own_toI hi, own_toI hj] at h; omega
theorem own_inj {i j : Nat} (h : Int32.ofNat i = Int32.ofNat j) (hi : i < 2147483648) (hj : j < 2147483648) : i = j := by
  have q := congrArg Int32.toInt h
  rw [own_toI hi, own_toI hj] at q; omega
theorem own_nneg (i : Nat) (hi : i < 2147483648) : ¬ Int32.ofNat i < 0 := by
  rw [Int32.lt_iff_toInt_lt, own_toI hi]; show ¬ (i : Int) < 0; omega
theorem own_clamp {i : Nat} (hi : i < 2147483648) : (Int32.ofNat i).toNatClampNeg = i := clamp_of rfl hi
theorem own_narm (x : Int32) : nar .char (x &&& (255 : Int32)) = (x &&& (255 : Int32)) := i2c_mask x
theorem own_osz {Z : State} {n0 : Nat} {h : Heap} (O : Old Z n0 h) : n0 ≤ h.size := O.1 ▸ O.2.1
theorem pn_0 : plainName "java/lang/String" = true := by first | (simp [plainName, overriddenIn]; done) | decide +kernel
theorem pn_1 : plainName "java/lang/StringLatin1" = true := by first | (simp [plainName, overriddenIn]; done) | decide +kernel
theorem pn_2 : plainName "com/example/subsumer/subsumer/Role" = true := by first | (simp [plainName, overriddenIn]; done) | decide +kernel
theorem pn_3 : plainName "com/example/subsumer/subsumer/RolePropertyPinLaw" = true := by first | (simp [plainName, overriddenIn]; done) | decide +kernel
theorem pd_0 : parseMethodDescriptor "([CIILjava/lang/Void;)V" = some ⟨[(.array .char), .int, .int, (.object "java/lang/Void")], none⟩ := by decide +kernel
theorem pd_1 : parseMethodDescriptor "(C)Z" = some ⟨[.char], some .boolean⟩ := by decide +kernel
theorem pd_2 : parseMethodDescriptor "(C)[B" = some ⟨[.char], some (.array .byte)⟩ := by decide +kernel
theorem pd_3 : parseMethodDescriptor "([BB)V" = some ⟨[(.array .byte), .byte], none⟩ := by decide +kernel
theorem pd_4 : parseMethodDescriptor "(Ljava/lang/String;IZ)V" = some ⟨[(.object "java/lang/String"), .int, .boolean], none⟩ := by decide +kernel
theorem pd_5 : parseMethodDescriptor "([C)V" = some ⟨[(.array .char)], none⟩ := by decide +kernel
theorem pd_6 : parseMethodDescriptor "(Ljava/lang/String;I)Lcom/example/subsumer/subsumer/Role;" = some ⟨[(.object "java/lang/String"), .int], some (.object "com/example/subsumer/subsumer/Role")⟩ := by decide +kernel
theorem pd_7 : parseMethodDescriptor "()Lcom/example/subsumer/subsumer/Role;" = some ⟨[], some (.object "com/example/subsumer/subsumer/Role")⟩ := by decide +kernel
theorem pd_8 : parseMethodDescriptor "()Ljava/lang/String;" = some ⟨[], some (.object "java/lang/String")⟩ := by decide +kernel
theorem pd_9 : parseMethodDescriptor "(Ljava/lang/Object;)Z" = some ⟨[(.object "java/lang/Object")], some .boolean⟩ := by decide +kernel
theorem pd_10 : parseMethodDescriptor "()Z" = some ⟨[], some .boolean⟩ := by decide +kernel
theorem pd_11 : parseMethodDescriptor "()I" = some ⟨[], some .int⟩ := by decide +kernel
theorem pd_12 : parseMethodDescriptor "(C)Ljava/lang/String;" = some ⟨[.char], some (.object "java/lang/String")⟩ := by decide +kernel
theorem d_jdk_42_method_139_0 : decode jdk_42_method_139_code 0 = .ok (.getstatic 38, 3) := by decide +kernel
theorem d_jdk_42_method_139_10 : decode jdk_42_method_139_code 10 = .ok (.ifCond .eq 16, 3) := by decide +kernel
theorem d_jdk_42_method_139_13 : decode jdk_42_method_139_code 13 = .ok (.new 10, 3) := by decide +kernel
theorem d_jdk_42_method_139_16 : decode jdk_42_method_139_code 16 = .ok (.dup, 1) := by decide +kernel
theorem d_jdk_42_method_139_17 : decode jdk_42_method_139_code 17 = .ok (.iload_n 0, 1) := by decide +kernel
theorem d_jdk_42_method_139_18 : decode jdk_42_method_139_code 18 = .ok (.invokestatic 1018, 3) := by decide +kernel
theorem d_jdk_42_method_139_21 : decode jdk_42_method_139_code 21 = .ok (.iconst 0, 1) := by decide +kernel
theorem d_jdk_42_method_139_22 : decode jdk_42_method_139_code 22 = .ok (.invokespecial 209, 3) := by decide +kernel
theorem d_jdk_42_method_139_25 : decode jdk_42_method_139_code 25 = .ok (.areturn, 1) := by decide +kernel
theorem d_jdk_42_method_139_3 : decode jdk_42_method_139_code 3 = .ok (.ifCond .eq 23, 3) := by decide +kernel
theorem d_jdk_42_method_139_6 : decode jdk_42_method_139_code 6 = .ok (.iload_n 0, 1) := by decide +kernel
theorem d_jdk_42_method_139_7 : decode jdk_42_method_139_code 7 = .ok (.invokestatic 1015, 3) := by decide +kernel
theorem d_jdk_42_method_149_0 : decode jdk_42_method_149_code 0 = .ok (.aload_n 0, 1) := by decide +kernel
theorem d_jdk_42_method_149_1 : decode jdk_42_method_149_code 1 = .ok (.invokespecial 1, 3) := by decide +kernel
theorem d_jdk_42_method_149_11 : decode jdk_42_method_149_code 11 = .ok (.getfield 9, 3) := by decide +kernel
theorem d_jdk_42_method_149_14 : decode jdk_42_method_149_code 14 = .ok (.putfield 9, 3) := by decide +kernel
theorem d_jdk_42_method_149_17 : decode jdk_42_method_149_code 17 = .ok (.aload_n 0, 1) := by decide +kernel
theorem d_jdk_42_method_149_18 : decode jdk_42_method_149_code 18 = .ok (.ldc 7, 2) := by decide +kernel
theorem d_jdk_42_method_149_20 : decode jdk_42_method_149_code 20 = .ok (.getfield 15, 3) := by decide +kernel
theorem d_jdk_42_method_149_23 : decode jdk_42_method_149_code 23 = .ok (.putfield 15, 3) := by decide +kernel
theorem d_jdk_42_method_149_26 : decode jdk_42_method_149_code 26 = .ok (.return_, 1) := by decide +kernel
theorem d_jdk_42_method_149_4 : decode jdk_42_method_149_code 4 = .ok (.iload_n 3, 1) := by decide +kernel
theorem d_jdk_42_method_149_5 : decode jdk_42_method_149_code 5 = .ok (.ifCond .ne 22, 3) := by decide +kernel
theorem d_jdk_42_method_149_8 : decode jdk_42_method_149_code 8 = .ok (.aload_n 0, 1) := by decide +kernel
theorem d_jdk_42_method_149_9 : decode jdk_42_method_149_code 9 = .ok (.ldc 7, 2) := by decide +kernel
theorem d_jdk_42_method_151_0 : decode jdk_42_method_151_code 0 = .ok (.aload_n 0, 1) := by decide +kernel
theorem d_jdk_42_method_151_1 : decode jdk_42_method_151_code 1 = .ok (.invokespecial 1, 3) := by decide +kernel
theorem d_jdk_42_method_151_10 : decode jdk_42_method_151_code 10 = .ok (.iload_n 2, 1) := by decide +kernel
theorem d_jdk_42_method_151_11 : decode jdk_42_method_151_code 11 = .ok (.putfield 15, 3) := by decide +kernel
theorem d_jdk_42_method_151_14 : decode jdk_42_method_151_code 14 = .ok (.return_, 1) := by decide +kernel
theorem d_jdk_42_method_151_4 : decode jdk_42_method_151_code 4 = .ok (.aload_n 0, 1) := by decide +kernel
theorem d_jdk_42_method_151_5 : decode jdk_42_method_151_code 5 = .ok (.aload_n 1, 1) := by decide +kernel
theorem d_jdk_42_method_151_6 : decode jdk_42_method_151_code 6 = .ok (.putfield 9, 3) := by decide +kernel
theorem d_jdk_42_method_151_9 : decode jdk_42_method_151_code 9 = .ok (.aload_n 0, 1) := by decide +kernel
theorem d_jdk_42_method_3_0 : decode jdk_42_method_3_code 0 = .ok (.aload_n 0, 1) := by decide +kernel
theorem d_jdk_42_method_3_1 : decode jdk_42_method_3_code 1 = .ok (.aload_n 1, 1) := by decide +kernel
theorem d_jdk_42_method_3_2 : decode jdk_42_method_3_code 2 = .ok (.iconst 0, 1) := by decide +kernel
theorem d_jdk_42_method_3_3 : decode jdk_42_method_3_code 3 = .ok (.aload_n 1, 1) := by decide +kernel
theorem d_jdk_42_method_3_4 : decode jdk_42_method_3_code 4 = .ok (.arraylength, 1) := by decide +kernel
theorem d_jdk_42_method_3_5 : decode jdk_42_method_3_code 5 = .ok (.aconst_null, 1) := by decide +kernel
theorem d_jdk_42_method_3_6 : decode jdk_42_method_3_code 6 = .ok (.invokespecial 27, 3) := by decide +kernel
theorem d_jdk_42_method_3_9 : decode jdk_42_method_3_code 9 = .ok (.return_, 1) := by decide +kernel
theorem d_jdk_42_method_66_0 : decode jdk_42_method_66_code 0 = .ok (.aload_n 0, 1) := by decide +kernel
theorem d_jdk_42_method_66_1 : decode jdk_42_method_66_code 1 = .ok (.aload_n 1, 1) := by decide +kernel
theorem d_jdk_42_method_66_2 : decode jdk_42_method_66_code 2 = .ok (.if_acmp .ne 5, 3) := by decide +kernel
theorem d_jdk_42_method_66_5 : decode jdk_42_method_66_code 5 = .ok (.iconst 1, 1) := by decide +kernel
theorem d_jdk_42_method_66_6 : decode jdk_42_method_66_code 6 = .ok (.ireturn, 1) := by decide +kernel
theorem d_jdk_43_method_3_0 : decode jdk_43_method_3_code 0 = .ok (.iload_n 0, 1) := by decide +kernel
theorem d_jdk_43_method_3_1 : decode jdk_43_method_3_code 1 = .ok (.sipush 255, 3) := by decide +kernel
theorem d_jdk_43_method_3_12 : decode jdk_43_method_3_code 12 = .ok (.ireturn, 1) := by decide +kernel
theorem d_jdk_43_method_3_4 : decode jdk_43_method_3_code 4 = .ok (.if_icmp .gt 7, 3) := by decide +kernel
theorem d_jdk_43_method_3_7 : decode jdk_43_method_3_code 7 = .ok (.iconst 1, 1) := by decide +kernel
theorem d_jdk_43_method_3_8 : decode jdk_43_method_3_code 8 = .ok (.goto 4, 3) := by decide +kernel
theorem d_jdk_43_method_46_0 : decode jdk_43_method_46_code 0 = .ok (.iconst 1, 1) := by decide +kernel
theorem d_jdk_43_method_46_1 : decode jdk_43_method_46_code 1 = .ok (.newarray .byte, 2) := by decide +kernel
theorem d_jdk_43_method_46_3 : decode jdk_43_method_46_code 3 = .ok (.dup, 1) := by decide +kernel
theorem d_jdk_43_method_46_4 : decode jdk_43_method_46_code 4 = .ok (.iconst 0, 1) := by decide +kernel
theorem d_jdk_43_method_46_5 : decode jdk_43_method_46_code 5 = .ok (.iload_n 0, 1) := by decide +kernel
theorem d_jdk_43_method_46_6 : decode jdk_43_method_46_code 6 = .ok (.i2b, 1) := by decide +kernel
theorem d_jdk_43_method_46_7 : decode jdk_43_method_46_code 7 = .ok (.bastore, 1) := by decide +kernel
theorem d_jdk_43_method_46_8 : decode jdk_43_method_46_code 8 = .ok (.areturn, 1) := by decide +kernel
theorem d_prog_21_method_1_0 : decode prog_21_method_1_code 0 = .ok (.aload_n 0, 1) := by decide +kernel
theorem d_prog_21_method_1_1 : decode prog_21_method_1_code 1 = .ok (.invokespecial 1, 3) := by decide +kernel
theorem d_prog_21_method_1_10 : decode prog_21_method_1_code 10 = .ok (.iload_n 2, 1) := by decide +kernel
theorem d_prog_21_method_1_11 : decode prog_21_method_1_code 11 = .ok (.putfield 13, 3) := by decide +kernel
theorem d_prog_21_method_1_14 : decode prog_21_method_1_code 14 = .ok (.aload_n 0, 1) := by decide +kernel
theorem d_prog_21_method_1_15 : decode prog_21_method_1_code 15 = .ok (.iload_n 3, 1) := by decide +kernel
theorem d_prog_21_method_1_16 : decode prog_21_method_1_code 16 = .ok (.putfield 17, 3) := by decide +kernel
theorem d_prog_21_method_1_19 : decode prog_21_method_1_code 19 = .ok (.return_, 1) := by decide +kernel
theorem d_prog_21_method_1_4 : decode prog_21_method_1_code 4 = .ok (.aload_n 0, 1) := by decide +kernel
theorem d_prog_21_method_1_5 : decode prog_21_method_1_code 5 = .ok (.aload_n 1, 1) := by decide +kernel
theorem d_prog_21_method_1_6 : decode prog_21_method_1_code 6 = .ok (.putfield 7, 3) := by decide +kernel
theorem d_prog_21_method_1_9 : decode prog_21_method_1_code 9 = .ok (.aload_n 0, 1) := by decide +kernel
theorem d_prog_21_method_2_0 : decode prog_21_method_2_code 0 = .ok (.new 8, 3) := by decide +kernel
theorem d_prog_21_method_2_12 : decode prog_21_method_2_code 12 = .ok (.astore_n 2, 1) := by decide +kernel
theorem d_prog_21_method_2_13 : decode prog_21_method_2_code 13 = .ok (.new 8, 3) := by decide +kernel
theorem d_prog_21_method_2_16 : decode prog_21_method_2_code 16 = .ok (.dup, 1) := by decide +kernel
theorem d_prog_21_method_2_17 : decode prog_21_method_2_code 17 = .ok (.aload_n 0, 1) := by decide +kernel
theorem d_prog_21_method_2_18 : decode prog_21_method_2_code 18 = .ok (.iconst 2, 1) := by decide +kernel
theorem d_prog_21_method_2_19 : decode prog_21_method_2_code 19 = .ok (.iload_n 1, 1) := by decide +kernel
theorem d_prog_21_method_2_20 : decode prog_21_method_2_code 20 = .ok (.imul, 1) := by decide +kernel
theorem d_prog_21_method_2_21 : decode prog_21_method_2_code 21 = .ok (.iconst 1, 1) := by decide +kernel
theorem d_prog_21_method_2_22 : decode prog_21_method_2_code 22 = .ok (.iadd, 1) := by decide +kernel
theorem d_prog_21_method_2_23 : decode prog_21_method_2_code 23 = .ok (.iconst 1, 1) := by decide +kernel
theorem d_prog_21_method_2_24 : decode prog_21_method_2_code 24 = .ok (.invokespecial 21, 3) := by decide +kernel
theorem d_prog_21_method_2_27 : decode prog_21_method_2_code 27 = .ok (.astore_n 3, 1) := by decide +kernel
theorem d_prog_21_method_2_28 : decode prog_21_method_2_code 28 = .ok (.aload_n 2, 1) := by decide +kernel
theorem d_prog_21_method_2_29 : decode prog_21_method_2_code 29 = .ok (.aload_n 3, 1) := by decide +kernel
theorem d_prog_21_method_2_3 : decode prog_21_method_2_code 3 = .ok (.dup, 1) := by decide +kernel
theorem d_prog_21_method_2_30 : decode prog_21_method_2_code 30 = .ok (.putfield 24, 3) := by decide +kernel
theorem d_prog_21_method_2_33 : decode prog_21_method_2_code 33 = .ok (.aload_n 3, 1) := by decide +kernel
theorem d_prog_21_method_2_34 : decode prog_21_method_2_code 34 = .ok (.aload_n 2, 1) := by decide +kernel
theorem d_prog_21_method_2_35 : decode prog_21_method_2_code 35 = .ok (.putfield 24, 3) := by decide +kernel
theorem d_prog_21_method_2_38 : decode prog_21_method_2_code 38 = .ok (.aload_n 2, 1) := by decide +kernel
theorem d_prog_21_method_2_39 : decode prog_21_method_2_code 39 = .ok (.areturn, 1) := by decide +kernel
theorem d_prog_21_method_2_4 : decode prog_21_method_2_code 4 = .ok (.aload_n 0, 1) := by decide +kernel
theorem d_prog_21_method_2_5 : decode prog_21_method_2_code 5 = .ok (.iconst 2, 1) := by decide +kernel
theorem d_prog_21_method_2_6 : decode prog_21_method_2_code 6 = .ok (.iload_n 1, 1) := by decide +kernel
theorem d_prog_21_method_2_7 : decode prog_21_method_2_code 7 = .ok (.imul, 1) := by decide +kernel
theorem d_prog_21_method_2_8 : decode prog_21_method_2_code 8 = .ok (.iconst 0, 1) := by decide +kernel
theorem d_prog_21_method_2_9 : decode prog_21_method_2_code 9 = .ok (.invokespecial 21, 3) := by decide +kernel
theorem d_prog_21_method_3_0 : decode prog_21_method_3_code 0 = .ok (.aload_n 0, 1) := by decide +kernel
theorem d_prog_21_method_3_1 : decode prog_21_method_3_code 1 = .ok (.getfield 7, 3) := by decide +kernel
theorem d_prog_21_method_3_4 : decode prog_21_method_3_code 4 = .ok (.areturn, 1) := by decide +kernel
theorem d_prog_21_method_4_0 : decode prog_21_method_4_code 0 = .ok (.aload_n 0, 1) := by decide +kernel
theorem d_prog_21_method_4_1 : decode prog_21_method_4_code 1 = .ok (.getfield 17, 3) := by decide +kernel
theorem d_prog_21_method_4_4 : decode prog_21_method_4_code 4 = .ok (.ireturn, 1) := by decide +kernel
theorem d_prog_21_method_5_0 : decode prog_21_method_5_code 0 = .ok (.aload_n 0, 1) := by decide +kernel
theorem d_prog_21_method_5_1 : decode prog_21_method_5_code 1 = .ok (.getfield 24, 3) := by decide +kernel
theorem d_prog_21_method_5_4 : decode prog_21_method_5_code 4 = .ok (.areturn, 1) := by decide +kernel
theorem d_prog_21_method_6_0 : decode prog_21_method_6_code 0 = .ok (.aload_n 0, 1) := by decide +kernel
theorem d_prog_21_method_6_1 : decode prog_21_method_6_code 1 = .ok (.getfield 13, 3) := by decide +kernel
theorem d_prog_21_method_6_4 : decode prog_21_method_6_code 4 = .ok (.ireturn, 1) := by decide +kernel
theorem w_0 {Z : State} {a0 : Array Value} (hw : ∀ d ∈ tables_1, d.before a0 Z = true) : ((Jvm.Cond.arrayClass Jvm.ClassFile.FieldType.char) : Jvm.Cond).before a0 Z = true := hw _ (List.mem_of_getElem? (i := 0) rfl)
theorem w_1 {Z : State} {a0 : Array Value} (hw : ∀ d ∈ tables_1, d.before a0 Z = true) : ((Jvm.Cond.classLink "com/example/subsumer/subsumer/RolePropertyPinLaw" (7 : Nat) "java/lang/String") : Jvm.Cond).before a0 Z = true := hw _ (List.mem_of_getElem? (i := 1) rfl)
theorem w_2 {Z : State} {a0 : Array Value} (hw : ∀ d ∈ tables_1, d.before a0 Z = true) : ((Jvm.Cond.instantiable "java/lang/String" (4 : Nat)) : Jvm.Cond).before a0 Z = true := hw _ (List.mem_of_getElem? (i := 2) rfl)
theorem w_3 {Z : State} {a0 : Array Value} (hw : ∀ d ∈ tables_1, d.before a0 Z = true) : ((Jvm.Cond.initialized "java/lang/String") : Jvm.Cond).before a0 Z = true := hw _ (List.mem_of_getElem? (i := 3) rfl)
theorem w_4 {Z : State} {a0 : Array Value} (hw : ∀ d ∈ tables_1, d.before a0 Z = true) : ((Jvm.Cond.methodLink "com/example/subsumer/subsumer/RolePropertyPinLaw" (9 : Nat) ({ cls := "java/lang/String", name := "<init>", desc := "([C)V" } : Jvm.MethodName)) : Jvm.Cond).before a0 Z = true := hw _ (List.mem_of_getElem? (i := 4) rfl)
theorem w_5 {Z : State} {a0 : Array Value} (hw : ∀ d ∈ tables_1, d.before a0 Z = true) : ((Jvm.Cond.instanceMethod ({ cls := "java/lang/String", name := "<init>", desc := "([C)V" } : Jvm.MethodName)) : Jvm.Cond).before a0 Z = true := hw _ (List.mem_of_getElem? (i := 5) rfl)
theorem w_6 {Z : State} {a0 : Array Value} (hw : ∀ d ∈ tables_1, d.before a0 Z = true) : ((Jvm.Cond.code ({ cls := "java/lang/String", name := "<init>", desc := "([C)V" } : Jvm.MethodName) jdk_42_method_3_code (2 : Nat) (Option.none : Option Jvm.ClassFile.FieldType)) : Jvm.Cond).before a0 Z = true := hw _ (List.mem_of_getElem? (i := 6) rfl)
theorem w_7 {Z : State} {a0 : Array Value} (hw : ∀ d ∈ tables_1, d.before a0 Z = true) : ((Jvm.Cond.methodLink "java/lang/String" (27 : Nat) ({ cls := "java/lang/String", name := "<init>", desc := "([CIILjava/lang/Void;)V" } : Jvm.MethodName)) : Jvm.Cond).before a0 Z = true := hw _ (List.mem_of_getElem? (i := 7) rfl)
theorem w_8 {Z : State} {a0 : Array Value} (hw : ∀ d ∈ tables_1, d.before a0 Z = true) : ((Jvm.Cond.instanceMethod ({ cls := "java/lang/String", name := "<init>", desc := "([CIILjava/lang/Void;)V" } : Jvm.MethodName)) : Jvm.Cond).before a0 Z = true := hw _ (List.mem_of_getElem? (i := 8) rfl)
theorem w_10 {Z : State} {a0 : Array Value} (hw : ∀ d ∈ tables_1, d.before a0 Z = true) : ((Jvm.Cond.code ({ cls := "java/lang/String", name := "<init>", desc := "([CIILjava/lang/Void;)V" } : Jvm.MethodName) jdk_42_method_149_code (6 : Nat) (Option.none : Option Jvm.ClassFile.FieldType)) : Jvm.Cond).before a0 Z = true := hw _ (List.mem_of_getElem? (i := 10) rfl)
theorem w_11 {Z : State} {a0 : Array Value} (hw : ∀ d ∈ tables_1, d.before a0 Z = true) : ((Jvm.Cond.methodLink "java/lang/String" (1 : Nat) ({ cls := "java/lang/Object", name := "<init>", desc := "()V" } : Jvm.MethodName)) : Jvm.Cond).before a0 Z = true := hw _ (List.mem_of_getElem? (i := 11) rfl)
theorem w_12 {Z : State} {a0 : Array Value} (hw : ∀ d ∈ tables_1, d.before a0 Z = true) : ((Jvm.Cond.instanceMethod ({ cls := "java/lang/Object", name := "<init>", desc := "()V" } : Jvm.MethodName)) : Jvm.Cond).before a0 Z = true := hw _ (List.mem_of_getElem? (i := 12) rfl)
theorem w_13 {Z : State} {a0 : Array Value} (hw : ∀ d ∈ tables_1, d.before a0 Z = true) : ((Jvm.Cond.code ({ cls := "java/lang/Object", name := "<init>", desc := "()V" } : Jvm.MethodName) object_method_1_code (1 : Nat) (Option.none : Option Jvm.ClassFile.FieldType)) : Jvm.Cond).before a0 Z = true := hw _ (List.mem_of_getElem? (i := 13) rfl)
theorem w_14 {Z : State} {a0 : Array Value} (hw : ∀ d ∈ tables_1, d.before a0 Z = true) : ((Jvm.Cond.fieldLink "java/lang/String" (38 : Nat) "java/lang/String" "COMPACT_STRINGS" "Z") : Jvm.Cond).before a0 Z = true := hw _ (List.mem_of_getElem? (i := 14) rfl)
theorem w_19 {Z : State} {a0 : Array Value} (hw : ∀ d ∈ tables_1, d.before a0 Z = true) : ((Jvm.Cond.arrayClass Jvm.ClassFile.FieldType.byte) : Jvm.Cond).before a0 Z = true := hw _ (List.mem_of_getElem? (i := 19) rfl)
theorem w_26 {Z : State} {a0 : Array Value} (hw : ∀ d ∈ tables_1, d.before a0 Z = true) : ((Jvm.Cond.fieldLink "java/lang/String" (15 : Nat) "java/lang/String" "coder" "B") : Jvm.Cond).before a0 Z = true := hw _ (List.mem_of_getElem? (i := 26) rfl)
theorem w_27 {Z : State} {a0 : Array Value} (hw : ∀ d ∈ tables_1, d.before a0 Z = true) : ((Jvm.Cond.laysFinal "java/lang/String" "java/lang/String" "coder" "B") : Jvm.Cond).before a0 Z = true := hw _ (List.mem_of_getElem? (i := 27) rfl)
theorem w_28 {Z : State} {a0 : Array Value} (hw : ∀ d ∈ tables_1, d.before a0 Z = true) : ((Jvm.Cond.fieldLink "java/lang/String" (9 : Nat) "java/lang/String" "value" "[B") : Jvm.Cond).before a0 Z = true := hw _ (List.mem_of_getElem? (i := 28) rfl)
theorem w_29 {Z : State} {a0 : Array Value} (hw : ∀ d ∈ tables_1, d.before a0 Z = true) : ((Jvm.Cond.laysFinal "java/lang/String" "java/lang/String" "value" "[B") : Jvm.Cond).before a0 Z = true := hw _ (List.mem_of_getElem? (i := 29) rfl)
theorem w_30 {Z : State} {a0 : Array Value} (hw : ∀ d ∈ tables_1, d.before a0 Z = true) : ((Jvm.Cond.methodLink "com/example/subsumer/subsumer/RolePropertyPinLaw" (16 : Nat) ({ cls := "com/example/subsumer/subsumer/Role", name := "property", desc := "(Ljava/lang/String;I)Lcom/example/subsumer/subsumer/Role;" } : Jvm.MethodName)) : Jvm.Cond).before a0 Z = true := hw _ (List.mem_of_getElem? (i := 30) rfl)
theorem w_31 {Z : State} {a0 : Array Value} (hw : ∀ d ∈ tables_1, d.before a0 Z = true) : ((Jvm.Cond.static ({ cls := "com/example/subsumer/subsumer/Role", name := "property", desc := "(Ljava/lang/String;I)Lcom/example/subsumer/subsumer/Role;" } : Jvm.MethodName)) : Jvm.Cond).before a0 Z = true := hw _ (List.mem_of_getElem? (i := 31) rfl)
theorem w_32 {Z : State} {a0 : Array Value} (hw : ∀ d ∈ tables_1, d.before a0 Z = true) : ((Jvm.Cond.initialized "com/example/subsumer/subsumer/Role") : Jvm.Cond).before a0 Z = true := hw _ (List.mem_of_getElem? (i := 32) rfl)
theorem w_33 {Z : State} {a0 : Array Value} (hw : ∀ d ∈ tables_1, d.before a0 Z = true) : ((Jvm.Cond.code ({ cls := "com/example/subsumer/subsumer/Role", name := "property", desc := "(Ljava/lang/String;I)Lcom/example/subsumer/subsumer/Role;" } : Jvm.MethodName) prog_21_method_2_code (4 : Nat) (Option.some (Jvm.ClassFile.FieldType.object "com/example/subsumer/subsumer/Role"))) : Jvm.Cond).before a0 Z = true := hw _ (List.mem_of_getElem? (i := 33) rfl)
theorem w_34 {Z : State} {a0 : Array Value} (hw : ∀ d ∈ tables_1, d.before a0 Z = true) : ((Jvm.Cond.classLink "com/example/subsumer/subsumer/Role" (8 : Nat) "com/example/subsumer/subsumer/Role") : Jvm.Cond).before a0 Z = true := hw _ (List.mem_of_getElem? (i := 34) rfl)
theorem w_35 {Z : State} {a0 : Array Value} (hw : ∀ d ∈ tables_1, d.before a0 Z = true) : ((Jvm.Cond.instantiable "com/example/subsumer/subsumer/Role" (4 : Nat)) : Jvm.Cond).before a0 Z = true := hw _ (List.mem_of_getElem? (i := 35) rfl)
theorem w_36 {Z : State} {a0 : Array Value} (hw : ∀ d ∈ tables_1, d.before a0 Z = true) : ((Jvm.Cond.methodLink "com/example/subsumer/subsumer/Role" (21 : Nat) ({ cls := "com/example/subsumer/subsumer/Role", name := "<init>", desc := "(Ljava/lang/String;IZ)V" } : Jvm.MethodName)) : Jvm.Cond).before a0 Z = true := hw _ (List.mem_of_getElem? (i := 36) rfl)
theorem w_37 {Z : State} {a0 : Array Value} (hw : ∀ d ∈ tables_1, d.before a0 Z = true) : ((Jvm.Cond.instanceMethod ({ cls := "com/example/subsumer/subsumer/Role", name := "<init>", desc := "(Ljava/lang/String;IZ)V" } : Jvm.MethodName)) : Jvm.Cond).before a0 Z = true := hw _ (List.mem_of_getElem? (i := 37) rfl)
theorem w_38 {Z : State} {a0 : Array Value} (hw : ∀ d ∈ tables_1, d.before a0 Z = true) : ((Jvm.Cond.code ({ cls := "com/example/subsumer/subsumer/Role", name := "<init>", desc := "(Ljava/lang/String;IZ)V" } : Jvm.MethodName) prog_21_method_1_code (4 : Nat) (Option.none : Option Jvm.ClassFile.FieldType)) : Jvm.Cond).before a0 Z = true := hw _ (List.mem_of_getElem? (i := 38) rfl)
theorem w_39 {Z : State} {a0 : Array Value} (hw : ∀ d ∈ tables_1, d.before a0 Z = true) : ((Jvm.Cond.methodLink "com/example/subsumer/subsumer/Role" (1 : Nat) ({ cls := "java/lang/Object", name := "<init>", desc := "()V" } : Jvm.MethodName)) : Jvm.Cond).before a0 Z = true := hw _ (List.mem_of_getElem? (i := 39) rfl)
theorem w_40 {Z : State} {a0 : Array Value} (hw : ∀ d ∈ tables_1, d.before a0 Z = true) : ((Jvm.Cond.fieldLink "com/example/subsumer/subsumer/Role" (7 : Nat) "com/example/subsumer/subsumer/Role" "iri" "Ljava/lang/String;") : Jvm.Cond).before a0 Z = true := hw _ (List.mem_of_getElem? (i := 40) rfl)
theorem w_41 {Z : State} {a0 : Array Value} (hw : ∀ d ∈ tables_1, d.before a0 Z = true) : ((Jvm.Cond.laysFinal "com/example/subsumer/subsumer/Role" "com/example/subsumer/subsumer/Role" "iri" "Ljava/lang/String;") : Jvm.Cond).before a0 Z = true := hw _ (List.mem_of_getElem? (i := 41) rfl)
theorem w_42 {Z : State} {a0 : Array Value} (hw : ∀ d ∈ tables_1, d.before a0 Z = true) : ((Jvm.Cond.fieldLink "com/example/subsumer/subsumer/Role" (13 : Nat) "com/example/subsumer/subsumer/Role" "id" "I") : Jvm.Cond).before a0 Z = true := hw _ (List.mem_of_getElem? (i := 42) rfl)
theorem w_43 {Z : State} {a0 : Array Value} (hw : ∀ d ∈ tables_1, d.before a0 Z = true) : ((Jvm.Cond.laysFinal "com/example/subsumer/subsumer/Role" "com/example/subsumer/subsumer/Role" "id" "I") : Jvm.Cond).before a0 Z = true := hw _ (List.mem_of_getElem? (i := 43) rfl)
theorem w_44 {Z : State} {a0 : Array Value} (hw : ∀ d ∈ tables_1, d.before a0 Z = true) : ((Jvm.Cond.fieldLink "com/example/subsumer/subsumer/Role" (17 : Nat) "com/example/subsumer/subsumer/Role" "inverse" "Z") : Jvm.Cond).before a0 Z = true := hw _ (List.mem_of_getElem? (i := 44) rfl)
theorem w_45 {Z : State} {a0 : Array Value} (hw : ∀ d ∈ tables_1, d.before a0 Z = true) : ((Jvm.Cond.laysFinal "com/example/subsumer/subsumer/Role" "com/example/subsumer/subsumer/Role" "inverse" "Z") : Jvm.Cond).before a0 Z = true := hw _ (List.mem_of_getElem? (i := 45) rfl)
theorem w_46 {Z : State} {a0 : Array Value} (hw : ∀ d ∈ tables_1, d.before a0 Z = true) : ((Jvm.Cond.fieldLink "com/example/subsumer/subsumer/Role" (24 : Nat) "com/example/subsumer/subsumer/Role" "opposite" "Lcom/example/subsumer/subsumer/Role;") : Jvm.Cond).before a0 Z = true := hw _ (List.mem_of_getElem? (i := 46) rfl)
theorem w_47 {Z : State} {a0 : Array Value} (hw : ∀ d ∈ tables_1, d.before a0 Z = true) : ((Jvm.Cond.lays "com/example/subsumer/subsumer/Role" "com/example/subsumer/subsumer/Role" "opposite" "Lcom/example/subsumer/subsumer/Role;") : Jvm.Cond).before a0 Z = true := hw _ (List.mem_of_getElem? (i := 47) rfl)
theorem w_48 {Z : State} {a0 : Array Value} (hw : ∀ d ∈ tables_1, d.before a0 Z = true) : ((Jvm.Cond.methodLink "com/example/subsumer/subsumer/RolePropertyPinLaw" (22 : Nat) ({ cls := "com/example/subsumer/subsumer/Role", name := "inverse", desc := "()Lcom/example/subsumer/subsumer/Role;" } : Jvm.MethodName)) : Jvm.Cond).before a0 Z = true := hw _ (List.mem_of_getElem? (i := 48) rfl)
theorem w_49 {Z : State} {a0 : Array Value} (hw : ∀ d ∈ tables_1, d.before a0 Z = true) : ((Jvm.Cond.declares ({ cls := "com/example/subsumer/subsumer/Role", name := "inverse", desc := "()Lcom/example/subsumer/subsumer/Role;" } : Jvm.MethodName)) : Jvm.Cond).before a0 Z = true := hw _ (List.mem_of_getElem? (i := 49) rfl)
theorem w_50 {Z : State} {a0 : Array Value} (hw : ∀ d ∈ tables_1, d.before a0 Z = true) : ((Jvm.Cond.instanceMethod ({ cls := "com/example/subsumer/subsumer/Role", name := "inverse", desc := "()Lcom/example/subsumer/subsumer/Role;" } : Jvm.MethodName)) : Jvm.Cond).before a0 Z = true := hw _ (List.mem_of_getElem? (i := 50) rfl)
theorem w_51 {Z : State} {a0 : Array Value} (hw : ∀ d ∈ tables_1, d.before a0 Z = true) : ((Jvm.Cond.selects "com/example/subsumer/subsumer/Role" ({ cls := "com/example/subsumer/subsumer/Role", name := "inverse", desc := "()Lcom/example/subsumer/subsumer/Role;" } : Jvm.MethodName) ({ cls := "com/example/subsumer/subsumer/Role", name := "inverse", desc := "()Lcom/example/subsumer/subsumer/Role;" } : Jvm.MethodName)) : Jvm.Cond).before a0 Z = true := hw _ (List.mem_of_getElem? (i := 51) rfl)
theorem w_52 {Z : State} {a0 : Array Value} (hw : ∀ d ∈ tables_1, d.before a0 Z = true) : ((Jvm.Cond.code ({ cls := "com/example/subsumer/subsumer/Role", name := "inverse", desc := "()Lcom/example/subsumer/subsumer/Role;" } : Jvm.MethodName) prog_21_method_5_code (1 : Nat) (Option.some (Jvm.ClassFile.FieldType.object "com/example/subsumer/subsumer/Role"))) : Jvm.Cond).before a0 Z = true := hw _ (List.mem_of_getElem? (i := 52) rfl)
theorem w_53 {Z : State} {a0 : Array Value} (hw : ∀ d ∈ tables_1, d.before a0 Z = true) : ((Jvm.Cond.methodLink "com/example/subsumer/subsumer/RolePropertyPinLaw" (26 : Nat) ({ cls := "com/example/subsumer/subsumer/Role", name := "iri", desc := "()Ljava/lang/String;" } : Jvm.MethodName)) : Jvm.Cond).before a0 Z = true := hw _ (List.mem_of_getElem? (i := 53) rfl)
theorem w_54 {Z : State} {a0 : Array Value} (hw : ∀ d ∈ tables_1, d.before a0 Z = true) : ((Jvm.Cond.declares ({ cls := "com/example/subsumer/subsumer/Role", name := "iri", desc := "()Ljava/lang/String;" } : Jvm.MethodName)) : Jvm.Cond).before a0 Z = true := hw _ (List.mem_of_getElem? (i := 54) rfl)
theorem w_55 {Z : State} {a0 : Array Value} (hw : ∀ d ∈ tables_1, d.before a0 Z = true) : ((Jvm.Cond.instanceMethod ({ cls := "com/example/subsumer/subsumer/Role", name := "iri", desc := "()Ljava/lang/String;" } : Jvm.MethodName)) : Jvm.Cond).before a0 Z = true := hw _ (List.mem_of_getElem? (i := 55) rfl)
theorem w_56 {Z : State} {a0 : Array Value} (hw : ∀ d ∈ tables_1, d.before a0 Z = true) : ((Jvm.Cond.selects "com/example/subsumer/subsumer/Role" ({ cls := "com/example/subsumer/subsumer/Role", name := "iri", desc := "()Ljava/lang/String;" } : Jvm.MethodName) ({ cls := "com/example/subsumer/subsumer/Role", name := "iri", desc := "()Ljava/lang/String;" } : Jvm.MethodName)) : Jvm.Cond).before a0 Z = true := hw _ (List.mem_of_getElem? (i := 56) rfl)
theorem w_57 {Z : State} {a0 : Array Value} (hw : ∀ d ∈ tables_1, d.before a0 Z = true) : ((Jvm.Cond.code ({ cls := "com/example/subsumer/subsumer/Role", name := "iri", desc := "()Ljava/lang/String;" } : Jvm.MethodName) prog_21_method_3_code (1 : Nat) (Option.some (Jvm.ClassFile.FieldType.object "java/lang/String"))) : Jvm.Cond).before a0 Z = true := hw _ (List.mem_of_getElem? (i := 57) rfl)
theorem w_58 {Z : State} {a0 : Array Value} (hw : ∀ d ∈ tables_1, d.before a0 Z = true) : ((Jvm.Cond.methodLink "com/example/subsumer/subsumer/RolePropertyPinLaw" (30 : Nat) ({ cls := "java/lang/String", name := "equals", desc := "(Ljava/lang/Object;)Z" } : Jvm.MethodName)) : Jvm.Cond).before a0 Z = true := hw _ (List.mem_of_getElem? (i := 58) rfl)
theorem w_59 {Z : State} {a0 : Array Value} (hw : ∀ d ∈ tables_1, d.before a0 Z = true) : ((Jvm.Cond.declares ({ cls := "java/lang/String", name := "equals", desc := "(Ljava/lang/Object;)Z" } : Jvm.MethodName)) : Jvm.Cond).before a0 Z = true := hw _ (List.mem_of_getElem? (i := 59) rfl)
theorem w_60 {Z : State} {a0 : Array Value} (hw : ∀ d ∈ tables_1, d.before a0 Z = true) : ((Jvm.Cond.instanceMethod ({ cls := "java/lang/String", name := "equals", desc := "(Ljava/lang/Object;)Z" } : Jvm.MethodName)) : Jvm.Cond).before a0 Z = true := hw _ (List.mem_of_getElem? (i := 60) rfl)
theorem w_61 {Z : State} {a0 : Array Value} (hw : ∀ d ∈ tables_1, d.before a0 Z = true) : ((Jvm.Cond.selects "java/lang/String" ({ cls := "java/lang/String", name := "equals", desc := "(Ljava/lang/Object;)Z" } : Jvm.MethodName) ({ cls := "java/lang/String", name := "equals", desc := "(Ljava/lang/Object;)Z" } : Jvm.MethodName)) : Jvm.Cond).before a0 Z = true := hw _ (List.mem_of_getElem? (i := 61) rfl)
theorem w_62 {Z : State} {a0 : Array Value} (hw : ∀ d ∈ tables_1, d.before a0 Z = true) : ((Jvm.Cond.code ({ cls := "java/lang/String", name := "equals", desc := "(Ljava/lang/Object;)Z" } : Jvm.MethodName) jdk_42_method_66_code (3 : Nat) (Option.some Jvm.ClassFile.FieldType.boolean)) : Jvm.Cond).before a0 Z = true := hw _ (List.mem_of_getElem? (i := 62) rfl)
theorem w_63 {Z : State} {a0 : Array Value} (hw : ∀ d ∈ tables_1, d.before a0 Z = true) : ((Jvm.Cond.methodLink "com/example/subsumer/subsumer/RolePropertyPinLaw" (34 : Nat) ({ cls := "com/example/subsumer/subsumer/Role", name := "isInverse", desc := "()Z" } : Jvm.MethodName)) : Jvm.Cond).before a0 Z = true := hw _ (List.mem_of_getElem? (i := 63) rfl)
theorem w_64 {Z : State} {a0 : Array Value} (hw : ∀ d ∈ tables_1, d.before a0 Z = true) : ((Jvm.Cond.declares ({ cls := "com/example/subsumer/subsumer/Role", name := "isInverse", desc := "()Z" } : Jvm.MethodName)) : Jvm.Cond).before a0 Z = true := hw _ (List.mem_of_getElem? (i := 64) rfl)
theorem w_65 {Z : State} {a0 : Array Value} (hw : ∀ d ∈ tables_1, d.before a0 Z = true) : ((Jvm.Cond.instanceMethod ({ cls := "com/example/subsumer/subsumer/Role", name := "isInverse", desc := "()Z" } : Jvm.MethodName)) : Jvm.Cond).before a0 Z = true := hw _ (List.mem_of_getElem? (i := 65) rfl)
theorem w_66 {Z : State} {a0 : Array Value} (hw : ∀ d ∈ tables_1, d.before a0 Z = true) : ((Jvm.Cond.selects "com/example/subsumer/subsumer/Role" ({ cls := "com/example/subsumer/subsumer/Role", name := "isInverse", desc := "()Z" } : Jvm.MethodName) ({ cls := "com/example/subsumer/subsumer/Role", name := "isInverse", desc := "()Z" } : Jvm.MethodName)) : Jvm.Cond).before a0 Z = true := hw _ (List.mem_of_getElem? (i := 66) rfl)
theorem w_67 {Z : State} {a0 : Array Value} (hw : ∀ d ∈ tables_1, d.before a0 Z = true) : ((Jvm.Cond.code ({ cls := "com/example/subsumer/subsumer/Role", name := "isInverse", desc := "()Z" } : Jvm.MethodName) prog_21_method_4_code (1 : Nat) (Option.some Jvm.ClassFile.FieldType.boolean)) : Jvm.Cond).before a0 Z = true := hw _ (List.mem_of_getElem? (i := 67) rfl)
theorem w_68 {Z : State} {a0 : Array Value} (hw : ∀ d ∈ tables_1, d.before a0 Z = true) : ((Jvm.Cond.methodLink "com/example/subsumer/subsumer/RolePropertyPinLaw" (38 : Nat) ({ cls := "com/example/subsumer/subsumer/Role", name := "hashCode", desc := "()I" } : Jvm.MethodName)) : Jvm.Cond).before a0 Z = true := hw _ (List.mem_of_getElem? (i := 68) rfl)
theorem w_69 {Z : State} {a0 : Array Value} (hw : ∀ d ∈ tables_1, d.before a0 Z = true) : ((Jvm.Cond.declares ({ cls := "com/example/subsumer/subsumer/Role", name := "hashCode", desc := "()I" } : Jvm.MethodName)) : Jvm.Cond).before a0 Z = true := hw _ (List.mem_of_getElem? (i := 69) rfl)
theorem w_70 {Z : State} {a0 : Array Value} (hw : ∀ d ∈ tables_1, d.before a0 Z = true) : ((Jvm.Cond.instanceMethod ({ cls := "com/example/subsumer/subsumer/Role", name := "hashCode", desc := "()I" } : Jvm.MethodName)) : Jvm.Cond).before a0 Z = true := hw _ (List.mem_of_getElem? (i := 70) rfl)
theorem w_71 {Z : State} {a0 : Array Value} (hw : ∀ d ∈ tables_1, d.before a0 Z = true) : ((Jvm.Cond.selects "com/example/subsumer/subsumer/Role" ({ cls := "com/example/subsumer/subsumer/Role", name := "hashCode", desc := "()I" } : Jvm.MethodName) ({ cls := "com/example/subsumer/subsumer/Role", name := "hashCode", desc := "()I" } : Jvm.MethodName)) : Jvm.Cond).before a0 Z = true := hw _ (List.mem_of_getElem? (i := 71) rfl)
theorem w_72 {Z : State} {a0 : Array Value} (hw : ∀ d ∈ tables_1, d.before a0 Z = true) : ((Jvm.Cond.code ({ cls := "com/example/subsumer/subsumer/Role", name := "hashCode", desc := "()I" } : Jvm.MethodName) prog_21_method_6_code (1 : Nat) (Option.some Jvm.ClassFile.FieldType.int)) : Jvm.Cond).before a0 Z = true := hw _ (List.mem_of_getElem? (i := 72) rfl)
theorem w_73 {Z : State} {a0 : Array Value} (hw : ∀ d ∈ tables_1, d.before a0 Z = true) : ((Jvm.Cond.methodLink "com/example/subsumer/subsumer/RolePropertyPinLaw" (12 : Nat) ({ cls := "java/lang/String", name := "valueOf", desc := "(C)Ljava/lang/String;" } : Jvm.MethodName)) : Jvm.Cond).before a0 Z = true := hw _ (List.mem_of_getElem? (i := 73) rfl)
theorem w_74 {Z : State} {a0 : Array Value} (hw : ∀ d ∈ tables_1, d.before a0 Z = true) : ((Jvm.Cond.static ({ cls := "java/lang/String", name := "valueOf", desc := "(C)Ljava/lang/String;" } : Jvm.MethodName)) : Jvm.Cond).before a0 Z = true := hw _ (List.mem_of_getElem? (i := 74) rfl)
theorem w_75 {Z : State} {a0 : Array Value} (hw : ∀ d ∈ tables_1, d.before a0 Z = true) : ((Jvm.Cond.code ({ cls := "java/lang/String", name := "valueOf", desc := "(C)Ljava/lang/String;" } : Jvm.MethodName) jdk_42_method_139_code (1 : Nat) (Option.some (Jvm.ClassFile.FieldType.object "java/lang/String"))) : Jvm.Cond).before a0 Z = true := hw _ (List.mem_of_getElem? (i := 75) rfl)
theorem w_76 {Z : State} {a0 : Array Value} (hw : ∀ d ∈ tables_1, d.before a0 Z = true) : ((Jvm.Cond.methodLink "java/lang/String" (1015 : Nat) ({ cls := "java/lang/StringLatin1", name := "canEncode", desc := "(C)Z" } : Jvm.MethodName)) : Jvm.Cond).before a0 Z = true := hw _ (List.mem_of_getElem? (i := 76) rfl)
theorem w_77 {Z : State} {a0 : Array Value} (hw : ∀ d ∈ tables_1, d.before a0 Z = true) : ((Jvm.Cond.static ({ cls := "java/lang/StringLatin1", name := "canEncode", desc := "(C)Z" } : Jvm.MethodName)) : Jvm.Cond).before a0 Z = true := hw _ (List.mem_of_getElem? (i := 77) rfl)
theorem w_78 {Z : State} {a0 : Array Value} (hw : ∀ d ∈ tables_1, d.before a0 Z = true) : ((Jvm.Cond.initialized "java/lang/StringLatin1") : Jvm.Cond).before a0 Z = true := hw _ (List.mem_of_getElem? (i := 78) rfl)
theorem w_79 {Z : State} {a0 : Array Value} (hw : ∀ d ∈ tables_1, d.before a0 Z = true) : ((Jvm.Cond.code ({ cls := "java/lang/StringLatin1", name := "canEncode", desc := "(C)Z" } : Jvm.MethodName) jdk_43_method_3_code (1 : Nat) (Option.some Jvm.ClassFile.FieldType.boolean)) : Jvm.Cond).before a0 Z = true := hw _ (List.mem_of_getElem? (i := 79) rfl)
theorem w_80 {Z : State} {a0 : Array Value} (hw : ∀ d ∈ tables_1, d.before a0 Z = true) : ((Jvm.Cond.classLink "java/lang/String" (10 : Nat) "java/lang/String") : Jvm.Cond).before a0 Z = true := hw _ (List.mem_of_getElem? (i := 80) rfl)
theorem w_81 {Z : State} {a0 : Array Value} (hw : ∀ d ∈ tables_1, d.before a0 Z = true) : ((Jvm.Cond.methodLink "java/lang/String" (1018 : Nat) ({ cls := "java/lang/StringLatin1", name := "toBytes", desc := "(C)[B" } : Jvm.MethodName)) : Jvm.Cond).before a0 Z = true := hw _ (List.mem_of_getElem? (i := 81) rfl)
theorem w_82 {Z : State} {a0 : Array Value} (hw : ∀ d ∈ tables_1, d.before a0 Z = true) : ((Jvm.Cond.static ({ cls := "java/lang/StringLatin1", name := "toBytes", desc := "(C)[B" } : Jvm.MethodName)) : Jvm.Cond).before a0 Z = true := hw _ (List.mem_of_getElem? (i := 82) rfl)
theorem w_83 {Z : State} {a0 : Array Value} (hw : ∀ d ∈ tables_1, d.before a0 Z = true) : ((Jvm.Cond.code ({ cls := "java/lang/StringLatin1", name := "toBytes", desc := "(C)[B" } : Jvm.MethodName) jdk_43_method_46_code (1 : Nat) (Option.some (Jvm.ClassFile.FieldType.array Jvm.ClassFile.FieldType.byte))) : Jvm.Cond).before a0 Z = true := hw _ (List.mem_of_getElem? (i := 83) rfl)
theorem w_84 {Z : State} {a0 : Array Value} (hw : ∀ d ∈ tables_1, d.before a0 Z = true) : ((Jvm.Cond.methodLink "java/lang/String" (209 : Nat) ({ cls := "java/lang/String", name := "<init>", desc := "([BB)V" } : Jvm.MethodName)) : Jvm.Cond).before a0 Z = true := hw _ (List.mem_of_getElem? (i := 84) rfl)
theorem w_85 {Z : State} {a0 : Array Value} (hw : ∀ d ∈ tables_1, d.before a0 Z = true) : ((Jvm.Cond.instanceMethod ({ cls := "java/lang/String", name := "<init>", desc := "([BB)V" } : Jvm.MethodName)) : Jvm.Cond).before a0 Z = true := hw _ (List.mem_of_getElem? (i := 85) rfl)
theorem w_86 {Z : State} {a0 : Array Value} (hw : ∀ d ∈ tables_1, d.before a0 Z = true) : ((Jvm.Cond.code ({ cls := "java/lang/String", name := "<init>", desc := "([BB)V" } : Jvm.MethodName) jdk_42_method_151_code (3 : Nat) (Option.none : Option Jvm.ClassFile.FieldType)) : Jvm.Cond).before a0 Z = true := hw _ (List.mem_of_getElem? (i := 86) rfl)
theorem w_87 {Z : State} {a0 : Array Value} (hw : ∀ d ∈ tables_1, d.before a0 Z = true) : ((Jvm.Cond.stringLink "java/lang/String" (7 : Nat) "") : Jvm.Cond).before a0 Z = true := hw _ (List.mem_of_getElem? (i := 87) rfl)
theorem own_big {c : Int32} (q : (65535 : Int32) < c) : (255 : Int32) < c := by
  rw [Int32.lt_iff_toInt_lt] at q ⊢
  have e1 : (65535 : Int32).toInt = 65535 := by decide
  have e2 : (255 : Int32).toInt = 255 := by decide
  omega
def own_b8 (cs : List Int32) : List Value := (cs.map fun c => c.toInt8.toInt32).map Value.int
def own_Str (Z : State) (h : Heap) (x t : Addr) (k : ClassId) (cs : List Int32) : Prop := Exa Z h x "java/lang/String" ∧ Fld Z h x "java/lang/String" "value" "[B" (.ref t) ∧ Fld Z h x "java/lang/String" "coder" "B" (.int (0 : Int32)) ∧ Arv Z h t k .byte (Int32.ofNat cs.length) (own_b8 cs) (.int 0) ∧ cs.length ≤ 4000 ∧ ∀ c ∈ cs, ¬ c < 0 ∧ ¬ (255 : Int32) < c
theorem own_up {Z : State} {h : Heap} {x t : Addr} {k : ClassId} {cs : List Int32} (S : own_Str Z h x t k cs) : ∀ c ∈ cs, ¬ c < 0 ∧ ¬ (65535 : Int32) < c := fun c hc => ⟨(S.2.2.2.2.2 c hc).1, fun q => (S.2.2.2.2.2 c hc).2 (own_big q)⟩
theorem own_w_backV {Z : State} {a0 : Array Value} (hw : ∀ d ∈ tables_1, d.before a0 Z = true) : ∀ d ∈ StrChars.Road.words, d.before a0 Z = true := fun d hd => hw d ((by decide +kernel : ∀ d ∈ StrChars.Road.words, d ∈ tables_1) d hd)
theorem own_new {p : Program} {l : Launch} {e : Env} {R : Room} {s : State} {args : Array Value} {below : List Frame} {len W : Nat} {Z : State} {a0 : Array Value} {h : Heap} (hZ : Z.Warmed39 s.vm) (hw : ∀ d ∈ tables_1, d.before a0 Z = true) {x b : Addr} {kC : ClassId} {cs : List Int32} {d v0 c0 : Value} {z N : Int32} {n n0 : Nat} (hx0 : n0 ≤ x) (hh0 : n0 ≤ h.size) (E : Exa Z h x "java/lang/String") (V : Fld Z h x "java/lang/String" "value" "[B" v0) (C : Fld Z h x "java/lang/String" "coder" "B" c0) (K : Arv Z h b kC .char N (cs.map Value.int) d) (S : Sta Z h "java/lang/String" "COMPACT_STRINGS" "Z" (.int z)) (hz : ¬ (z = (0 : Int32))) (hn : cs.length = n) (hN : N = Int32.ofNat n) (l0 : 0 < n) (l2 : n ≤ 4000) (hp : ∀ c ∈ cs, ¬ c < 0 ∧ ¬ (255 : Int32) < c) (hfr : 4 ≤ R.frames) (hlo : W + 65 ≤ R.locals) :
    Back l R p e below s args (⟨"java/lang/String", "<init>", "([C)V"⟩ : MethodName) len W (fun P a => a = #[.ref x, .ref b] ∧ P.U.heap = h ∧ P.cells + 1 ≤ R.cells ∧ P.slots + n ≤ R.slots)
      (fun P _ v B => ∃ L, (v = none ∧ Fr n0 L ∧ Keep h B.U.heap [x] ∧ ∃ (t : Addr) (kb : ClassId), h.size ≤ t ∧ own_Str Z B.U.heap x t kb cs) ∧ B.locs = P.locs ++ L ∧ B.cells = P.cells + 1 ∧ B.slots = P.slots + n) := by
  refine Back.mono (StrChars.Road.backV hZ (own_w_backV hw) (w_2 hw) hx0 hh0 E V C K S hz hn hN l0 l2 hp rfl hfr hlo) (fun _ _ h => h) (fun P a v B hp' hq => ?_)
  obtain ⟨L, ⟨h1, h2, h3, h4, h5, t, kb, h6, h7, h8, h9, h10⟩, h11⟩ := hq
  subst hn hN
  exact ⟨L, ⟨h1, h2, h3, t, kb, h7, h4, h9, h5, h10, l2, hp⟩, h11⟩

def own_EL : List (String × Nat) := [("java/lang/String", 7)]
theorem own_EW {Z : State} {a0 : Array Value} (hw : ∀ d ∈ tables_1, d.before a0 Z = true) : EW Z a0 own_EL := (EW.cons (w_87 hw) (by decide) EW.nil)
theorem own_wS {Z : State} {a0 : Array Value} (hw : ∀ d ∈ tables_1, d.before a0 Z = true) : ∀ a ∈ Bundle.stringAtoms, a.before a0 Z = true := fun d hd => hw d ((by decide +kernel : ∀ d ∈ Bundle.stringAtoms, d ∈ tables_1) d hd)
theorem own_sf0 {Z : State} {EL : List (String × Nat)} {vm0 : Vm} {h : Heap} : ∀ x ∈ ([] : List Addr), x < h.size ∧ Safe Z EL vm0 h x := fun _ q => nomatch q
theorem own_sfS {Z : State} {EL : List (String × Nat)} {vm0 : Vm} {h : Heap} {x : Addr} {ws : List Addr} (n1 : x < h.size) (n : Safe Z EL vm0 h x) (r : ∀ y ∈ ws, y < h.size ∧ Safe Z EL vm0 h y) : ∀ y ∈ x :: ws, y < h.size ∧ Safe Z EL vm0 h y := fun y q => by
  rcases List.mem_cons.mp q with rfl | q
  · exact ⟨n1, n⟩
  · exact r y q
theorem own_backOfSH {p : Program} {l : Launch} {e : Env} {R : Room} {s : State} {args : Array Value} {below : List Frame} {Z : State} {a0 : Array Value} {EL : List (String × Nat)} {h : Heap} {vm0 : Vm} {sf : List Addr} {y : MethodName} {bytes : ByteArray} {maxL : Nat} {ret : Option FieldType} {rm : Room} {len W : Nat} {as' : Array Value} {Q : Option Value → Heap → List Loc → Prop}
    (hM : MetFree l y (head1 [Jvm.Cond.code y bytes maxL ret] rm) (fun a U => a = as' ∧ Z.Warmed39 U.vm ∧ U.heap = h ∧ CHv Z EL U.vm h ∧ ∀ x ∈ sf, Safe Z EL U.vm h x) (fun _ _ _ _ _ => True) (fun _ U o U' => ∃ v L, o = .returned v ∧ Q v U'.heap L ∧ CHr Z EL U.vm U.heap U'.vm U'.heap ∧ ReturnedEndW U o U' L rm.cells rm.slots))
    (hZ : Z.Warmed39 vm0) (wc : (Jvm.Cond.code y bytes maxL ret).before a0 Z = true) (wz : (Jvm.Cond.initialized y.cls).before a0 Z = true) (hf : rm.frames + 1 ≤ R.frames) (hl : W + (maxL + 11) + rm.locals ≤ R.locals) (hEL : EW Z a0 EL) (H : CHv Z EL vm0 h) (hsf : ∀ x ∈ sf, x < h.size ∧ Safe Z EL vm0 h x) :
    BackS l R p e below (s.setVm vm0) args y len W (fun A a => a = as' ∧ A.U.heap = h ∧ A.cells + rm.cells ≤ R.cells ∧ A.slots + rm.slots ≤ R.slots)
      (fun A _ v B => ∃ L, Q v B.U.heap L ∧ B.locs = A.locs ++ L ∧ B.cells = A.cells + rm.cells ∧ B.slots = A.slots + rm.slots ∧ CHr Z EL vm0 h B.U.vm B.U.heap) :=
  BackS.of_freeW (bytes := bytes) (maxL := maxL) (ret := ret) (E := fun _ first o t L k n => k = rm.cells ∧ n = rm.slots ∧ (∃ v, o = .returned v ∧ Q v t.heap L) ∧ CHr Z EL first.vm first.heap t.vm t.heap) hM hf hl
    (fun m meth c A a Y hp => have hU : Z.Warmed39 A.U.vm := wtrans (s := s.setVm vm0) hZ Y.warmed
      ⟨by show (Jvm.Cond.and _ .tt).before a A.U = true; rw [Cond.before_and, mv hU wc]; rfl, mv hU wc, mv hU wz, hp.2.2.1, hp.2.2.2⟩)
    (fun m meth c A a g mk Y hp => ⟨hp.1, wtrans (s := s.setVm vm0) hZ Y.warmed, hp.2.1, (CHv.at Y hZ hEL H).1, fun x hx => (CHv.at Y hZ hEL H).safe (hsf x hx).1 (hsf x hx).2⟩) (fun _ _ _ _ _ _ _ _ _ => trivial)
    (fun _ _ _ _ ⟨v, L, h1, h2, h3, h4⟩ => ⟨L, _, _, h4, rfl, rfl, ⟨v, h1, h2⟩, h3⟩)
    (fun m meth c A a g mk v t L k n Y hp _ _ ⟨e1, e2, ⟨v', e3, e4⟩, e5⟩ => by
      cases e3; subst e1 e2
      refine ⟨L, e4, rfl, rfl, rfl, (CHv.at Y hZ hEL H).trans ?_⟩
      rw [← hp.2.1]; exact e5)


theorem own_c255 (x : Int32) : ¬ (x &&& (255 : Int32)) < 0 ∧ ¬ (255 : Int32) < (x &&& (255 : Int32)) := by
  have h : (x &&& (255 : Int32)).toBitVec.toNat ≤ 255 := by
    show ((x.toBitVec &&& 255#32)).toNat ≤ 255
    rw [BitVec.toNat_and]
    exact Nat.and_le_right
  have e : (x &&& (255 : Int32)).toInt = ((x &&& (255 : Int32)).toBitVec.toNat : Int) := by
    show (x &&& (255 : Int32)).toBitVec.toInt = _
    rw [BitVec.toInt_eq_toNat_cond, if_pos (by omega)]
  constructor <;> rw [Int32.lt_iff_toInt_lt, e]
  · show ¬ _ < (0 : Int); omega
  · show ¬ (255 : Int) < _; omega
theorem own_rem (a b : Nat) (ha : a < 2147483648) (hb : b + 1 < 2147483648) : Int32.ofNat a % Int32.ofNat (b + 1) = Int32.ofNat (a % (b + 1)) := by
  apply Int32.toInt_inj.mp
  have h1 : a % (b + 1) ≤ a := Nat.mod_le _ _
  rw [Int32.toInt_mod, own_toI ha, own_toI hb, own_toI (by omega)]
  rw [Int.tmod_eq_emod_of_nonneg (by omega)]
  omega
theorem own_nz (b : Nat) (hb : b + 1 < 2147483648) : Int32.ofNat (b + 1) ≠ 0 := fun h => by
  have q := congrArg Int32.toInt h
  rw [own_toI hb] at q
  have e : (0 : Int32).toInt = 0 := by decide
  rw [e] at q; omega


theorem own_nb (c : Int32) : nar .byte (c.toInt8.toInt32) = c.toInt8.toInt32 := by
  show (c.toInt8.toInt32).toInt8.toInt32 = c.toInt8.toInt32
  rw [Int8.toInt8_toInt32]


theorem own_even (x : Int32) : (((2 : Int32) * x) &&& (1 : Int32)) = (0 : Int32) := by
  apply Int32.toBitVec_inj.mp
  show ((2#32 * x.toBitVec) &&& 1#32) = 0#32
  apply BitVec.eq_of_toNat_eq
  rw [BitVec.toNat_and, BitVec.toNat_mul]
  show (2 * x.toBitVec.toNat % 4294967296) &&& 1 = 0
  rw [Nat.and_one_is_mod]
  omega
theorem own_dif (x y : Int32) : ¬ ((2 : Int32) * ((x + (1 : Int32)) + (y &&& (16383 : Int32)))) = ((2 : Int32) * x) := by
  intro h
  have h := congrArg Int32.toBitVec h
  have h : 2#32 * ((x.toBitVec + 1#32) + (y.toBitVec &&& 16383#32)) = 2#32 * x.toBitVec := h
  have hb : (y.toBitVec &&& 16383#32).toNat ≤ 16383 := by
    rw [BitVec.toNat_and]
    exact Nat.and_le_right
  have q := congrArg BitVec.toNat h
  rw [BitVec.toNat_mul, BitVec.toNat_mul, BitVec.toNat_add, BitVec.toNat_add] at q
  generalize (y.toBitVec &&& 16383#32).toNat = z at q hb
  have hx := x.toBitVec.isLt
  have e1 : (2#32).toNat = 2 := rfl
  have e2 : (1#32).toNat = 1 := rfl
  rw [e1, e2] at q
  omega
theorem own_and3c (x : Int32) : (x &&& (3 : Int32)) = (0 : Int32) ∨ (x &&& (3 : Int32)) = (1 : Int32) ∨ (x &&& (3 : Int32)) = (2 : Int32) ∨ (x &&& (3 : Int32)) = (3 : Int32) := by
  have h : (x &&& (3 : Int32)).toBitVec.toNat ≤ 3 := by
    show ((x.toBitVec &&& 3#32)).toNat ≤ 3
    rw [BitVec.toNat_and]
    exact Nat.and_le_right
  have q : ∀ n : Nat, (x &&& (3 : Int32)).toBitVec.toNat = n → n < 4294967296 → (x &&& (3 : Int32)) = Int32.ofBitVec (BitVec.ofNat 32 n) := fun n e hn => by
    apply Int32.toBitVec_inj.mp
    apply BitVec.eq_of_toNat_eq
    rw [e]
    show n = n % 4294967296
    omega
  have c : (x &&& (3 : Int32)).toBitVec.toNat = 0 ∨ (x &&& (3 : Int32)).toBitVec.toNat = 1 ∨ (x &&& (3 : Int32)).toBitVec.toNat = 2 ∨ (x &&& (3 : Int32)).toBitVec.toNat = 3 := by omega
  rcases c with c | c | c | c
  · exact Or.inl (q 0 c (by omega))
  · exact Or.inr (Or.inl (q 1 c (by omega)))
  · exact Or.inr (Or.inr (Or.inl (q 2 c (by omega))))
  · exact Or.inr (Or.inr (Or.inr (q 3 c (by omega))))

theorem ef_se4 (m : MethodId) (x0 : Addr) (x1 : Addr) (x2 : Int32) (x3 : Int32) : entryFrame m #[(.ref x0), (.ref x1), (.int x2), (.int x3), .null] 6 = mkF m 0 #[.val (.ref x0), .val (.ref x1), .val (.int x2), .val (.int x3), .val .null, .unset] [] := by first | (simp [entryFrame, mkF, argsToLocals, Value.category]; done) | rfl
def Q_se4 (Z : State) (x : Addr) (b : Addr) (u1 : Value) (u2 : Value) (h0 : Heap) (n0 : Nat) (vV : Option Value) (h : Heap) (LL : List Loc) : Prop := ∃ (t : Addr) (k : ClassId), vV = none ∧ Fr n0 LL ∧ Keep h0 h [x] ∧ own_Str Z h x t k []
set_option maxRecDepth 65536 in
set_option maxHeartbeats 40000000 in
theorem rm_se4 (l : Launch) (Z : State) (a0 : Array Value) (hw : ∀ d ∈ tables_1, d.before a0 Z = true) (ws : List Jvm.Cond) (x : Addr) (b : Addr) (u1 : Value) (u2 : Value) (h0 : Heap) (n0 : Nat) (O0 : Old Z n0 h0) (E_x : Exa Z h0 x "java/lang/String") (F_x_value : Fld Z h0 x "java/lang/String" "value" "[B" u1) (F_x_coder : Fld Z h0 x "java/lang/String" "coder" "B" u2) (g_x : n0 ≤ x) :
    MetFree l (⟨"java/lang/String", "<init>", "([CIILjava/lang/Void;)V"⟩ : MethodName) (head1 (Jvm.Cond.code (⟨"java/lang/String", "<init>", "([CIILjava/lang/Void;)V"⟩ : MethodName) jdk_42_method_149_code 6 none :: ws) ({ frames := 1, cells := 4, slots := 8, locals := 12 } : Room)) (fun aa_ U => aa_ = #[(.ref x), (.ref b), (.int (0 : Int32)), (.int (0 : Int32)), .null] ∧ Z.Warmed39 U.vm ∧ U.heap = h0 ∧ CHv Z own_EL U.vm h0 ∧ ∀ xX_ ∈ ([x] : List Addr), Safe Z own_EL U.vm h0 xX_) (fun _ _ _ _ _ => True) (fun _ U o U' => ∃ vV LL, o = .returned vV ∧ Q_se4 Z x b u1 u2 h0 n0 vV U'.heap LL ∧ CHr Z own_EL U.vm U.heap U'.vm U'.heap ∧ ReturnedEndW U o U' LL ({ frames := 1, cells := 4, slots := 8, locals := 12 } : Room).cells ({ frames := 1, cells := 4, slots := 8, locals := 12 } : Room).slots) := by
  refine MetFree.of_bodySF (plainFor_of_name pn_0) hisR ?_
  intro pP eE sS mM args below meth cC s₁ Bd hml0 hP hK
  obtain ⟨rfl, hZ, hh, hCH, hSf⟩ := hP
  have hx := Bd.exec
  have hby := Bd.bytes
  have hml : cC.maxLocals = 6 := hml0
  have hown : sS.vm.findClass "java/lang/String" = some mM.cls := findClass_of_methodNamed Bd.named
  have hnm := (name_of_methodNamed Bd.named Bd.method).1
  have X0 : Stand pP l eE ({ frames := 1, cells := 4, slots := 8, locals := 12 } : Room) (sS.setVm sS.vm) mM #[(.ref x), (.ref b), (.int (0 : Int32)), (.int (0 : Int32)), .null] below meth cC s₁ [] 0 0 := Stand.of_body Bd
  have e0 : s₁.heap = h0 := by rw [← hh, Bd.state]; rfl
  have N0 := Fr.nil n0
  have pre0 : ∀ tg, Steps pP.tables eE below (s₁.setTop (mkF mM 0 #[.val (.ref x), .val (.ref b), .val (.int (0 : Int32)), .val (.int (0 : Int32)), .val .null, .unset] [])) tg → Steps pP.tables eE below (s₁.setTop (entryFrame mM #[(.ref x), (.ref b), (.int (0 : Int32)), (.int (0 : Int32)), .null] 6)) tg := fun tg kg => castTop (ef_se4 mM x b (0 : Int32) (0 : Int32)) kg
  have K0 : Keep h0 h0 [x] := Keep.refl _ _
  have hZ0 : Z.Warmed39 (sS.setVm sS.vm).vm := hZ
  have hown0 : (sS.setVm sS.vm).vm.findClass "java/lang/String" = some mM.cls := hown
  have hS0 : sS.Since sS.vm 0 := (State.WarmedH.refl sS).since 0
  have hk0 : 0 ≤ h0.size := Nat.zero_le _
  have CH0 : CHr Z own_EL sS.vm h0 sS.vm h0 := CHr.refl hCH
  have hEL := own_EW hw
  have wS := own_wS hw
  have Sf_x : Safe Z own_EL sS.vm h0 x := hSf _ (List.mem_of_getElem? (i := 0) rfl)
  obtain ⟨T1, X1, e1, st1⟩ := initO X0 hx hZ0 hown0 (w_11 hw) (w_12 hw) (w_13 hw) e0 (g := (mkF mM 1 #[.val (.ref x), .val (.ref b), .val (.int (0 : Int32)), .val (.int (0 : Int32)), .val .null, .unset] [(.ref x)])) rfl (by rw [hml]; rfl) rfl (hb hby d_jdk_42_method_149_1) (by decide) (W := 0) (by show 2 * 0 + _ ≤ _; exact Nat.le_of_eq rfl) (by decide)
  obtain ⟨a2, T2, h2, k2, b2, kb2, X2, e2, E2, hS2, hk2, hZ2, hown2, La2, Lb2, Lc2, Ld2, -, -, CHl2, Lit2, Ls2, st2⟩ := ldcCH X1 hx hZ0 hown0 (w_87 hw) wS e1 hS0 hk0 hEL (List.mem_of_getElem? (i := 0) rfl) CH0.1 (vs := []) (z := 0) ⟨by decide, by decide⟩ (by decide) rfl (g := (mkF mM 9 #[.val (.ref x), .val (.ref b), .val (.int (0 : Int32)), .val (.int (0 : Int32)), .val .null, .unset] [(.ref x)])) rfl (hb hby d_jdk_42_method_149_9) (n := 0) (by decide) (by decide) (by decide) (by decide)
  have CH3 : CHr Z own_EL sS.vm h0 T2.vm h2 := CH0.trans (CHl2)
  skip
  have K5 : Keep h0 h2 [x] := K0.ext E2
  have f7 := (CHr.safe CHl2 (E_x).lt Sf_x)
  have ln6 := Ls2 _ f7
  obtain ⟨T8, X8, e8, st8⟩ := getF X2 hx hZ2 hown2 (host := "") (Or.inl (w_28 hw)) Via.refl e2 Lc2 (g := (mkF mM 11 #[.val (.ref x), .val (.ref b), .val (.int (0 : Int32)), .val (.int (0 : Int32)), .val .null, .unset] [(.ref a2), (.ref x)])) rfl rfl (hb hby d_jdk_42_method_149_11)
  have f9 := (F_x_value.ext E2)
  have f10 := (E_x.ext E2)
  obtain ⟨T11, h11, X11, e11, W11, st11⟩ := putF X8 hx hZ2 hown2 (host := "") (Or.inl (w_28 hw)) Via.refl e8 f9 f10 (Or.inr ⟨(w_29 hw), rfl, hnm⟩) (w_2 hw) (ty := (.array .byte)) (by decide) rfl rfl (g := (mkF mM 14 #[.val (.ref x), .val (.ref b), .val (.int (0 : Int32)), .val (.int (0 : Int32)), .val .null, .unset] [(.ref b2), (.ref x)])) rfl rfl (hb hby d_jdk_42_method_149_14)
  have sfp13 := f7
  have CH12 : CHr Z own_EL sS.vm h0 T2.vm h11 := CH3.trans (CHr.wr W11 sfp13 CH3.1)
  have hk14 := Nat.le_trans hk2 (Nat.le_of_eq W11.size.symm)
  have K15 : Keep h0 h11 [x] := K5.wr W11 (Or.inl (List.mem_of_getElem? (i := 0) rfl))
  have Fw11 : Fld Z h11 x "java/lang/String" "value" "[B" (.ref b2) := f9.same W11
  have N11 := Fr.snoc X11 N0 g_x
  obtain ⟨a16, T16, h16, k16, b16, kb16, X16, e16, E16, hS16, hk16, hZ16, hown16, La16, Lb16, Lc16, Ld16, -, -, CHl16, Lit16, Ls16, st16⟩ := ldcCH X11 hx hZ2 hown2 (w_87 hw) wS e11 hS2 hk14 hEL (List.mem_of_getElem? (i := 0) rfl) CH12.1 (vs := []) (z := 0) ⟨by decide, by decide⟩ (by decide) rfl (g := (mkF mM 18 #[.val (.ref x), .val (.ref b), .val (.int (0 : Int32)), .val (.int (0 : Int32)), .val .null, .unset] [(.ref x)])) rfl (hb hby d_jdk_42_method_149_18) (n := 0) (by decide) (by decide) (by decide) (by decide)
  have CH17 : CHr Z own_EL sS.vm h0 T16.vm h16 := CH12.trans (CHl16)
  skip
  have K19 : Keep h0 h16 [x] := K15.ext E16
  have f21 := (CHr.safe CHl16 (Nat.lt_of_lt_of_le (Nat.lt_of_lt_of_le (E_x).lt E2.1) (Nat.le_of_eq W11.size.symm)) (Safe.wr W11 sfp13 CH3.1 f7))
  have ln20 := Ls16 _ f21
  obtain ⟨T22, X22, e22, st22⟩ := getF X16 hx hZ16 hown16 (host := "") (Or.inl (w_26 hw)) Via.refl e16 Lb16 (g := (mkF mM 20 #[.val (.ref x), .val (.ref b), .val (.int (0 : Int32)), .val (.int (0 : Int32)), .val .null, .unset] [(.ref a16), (.ref x)])) rfl rfl (hb hby d_jdk_42_method_149_20)
  have f23 := (((F_x_coder.ext E2).other W11 (Or.inr (slot_ne (Or.inr (w_27 hw)) (Or.inr (w_29 hw)) (by decide) (t := .byte) (t' := (.array .byte)) (by decide) (by decide)))).ext E16)
  have f24 := ((f10.wr W11).ext E16)
  obtain ⟨T25, h25, X25, e25, W25, st25⟩ := putFN X22 hx hZ16 hown16 (w_26 hw) Via.refl e22 f23 f24 (Or.inr ⟨(w_27 hw), rfl, hnm⟩) (w_2 hw) (ty := .byte) (v' := (.int (nar .byte (0 : Int32)))) (by decide) rfl (fits_nar_byte _) (g := (mkF mM 23 #[.val (.ref x), .val (.ref b), .val (.int (0 : Int32)), .val (.int (0 : Int32)), .val .null, .unset] [(.int (0 : Int32)), (.ref x)])) rfl rfl (hb hby d_jdk_42_method_149_23)
  have sfp27 := f21
  have CH26 : CHr Z own_EL sS.vm h0 T16.vm h25 := CH17.trans (CHr.wr W25 sfp27 CH17.1)
  have hk28 := Nat.le_trans hk16 (Nat.le_of_eq W25.size.symm)
  have K29 : Keep h0 h25 [x] := K19.wr W25 (Or.inl (List.mem_of_getElem? (i := 0) rfl))
  have Fw25 : Fld Z h25 x "java/lang/String" "coder" "B" (.int (0 : Int32)) := f23.same W25
  have N25 := Fr.snoc X25 N11 g_x
  have f31 := (f24.wr W25)
  have f32 := ((Fw11.ext E16).other W25 (Or.inr (slot_ne (Or.inr (w_29 hw)) (Or.inr (w_27 hw)) (by decide) (t := (.array .byte)) (t' := .byte) (by decide) (by decide))))
  have f33 := (((Ld2.other W11 (Ne.symm ln6.2)).ext E16).other W25 (Ne.symm ln6.2))
  obtain ⟨fs, hr, hrun, hended, hR1, hR2, hR3, hR4⟩ := Stand.leaveW (s := sS) (vm₁ := T16.vm) X25 hS16 (by rw [e25]; exact hk28) (v := none) (fun _ => rfl)
  refine ⟨_, _, pre0 _ ?_, hrun, hended, _, _, rfl, ?_, ?_, hR1, hR2, hR3, hR4.mono (by decide) (by decide)⟩
  · refine XS.aloadN X0.here hx rfl (hb hby d_jdk_42_method_149_0) rfl rfl ?_
    show Steps pP.tables eE below (s₁.setTop (mkF mM 1 #[.val (.ref x), .val (.ref b), .val (.int (0 : Int32)), .val (.int (0 : Int32)), .val .null, .unset] [(.ref x)])) _
    refine st1 _ ?_
    show Steps pP.tables eE below (T1.setTop (mkF mM 4 #[.val (.ref x), .val (.ref b), .val (.int (0 : Int32)), .val (.int (0 : Int32)), .val .null, .unset] [])) _
    refine XS.iloadN X1.here hx rfl (hb hby d_jdk_42_method_149_4) rfl ?_
    show Steps pP.tables eE below (T1.setTop (mkF mM 5 #[.val (.ref x), .val (.ref b), .val (.int (0 : Int32)), .val (.int (0 : Int32)), .val .null, .unset] [(.int (0 : Int32))])) _
    refine XS.ifNo X1.here hx rfl (hb hby d_jdk_42_method_149_5) rfl ((if0 _ _).trans (teq (by decide : (0 : Int32) = (0 : Int32))).2) ?_
    show Steps pP.tables eE below (T1.setTop (mkF mM 8 #[.val (.ref x), .val (.ref b), .val (.int (0 : Int32)), .val (.int (0 : Int32)), .val .null, .unset] [])) _
    refine XS.aloadN X1.here hx rfl (hb hby d_jdk_42_method_149_8) rfl rfl ?_
    show Steps pP.tables eE below (T1.setTop (mkF mM 9 #[.val (.ref x), .val (.ref b), .val (.int (0 : Int32)), .val (.int (0 : Int32)), .val .null, .unset] [(.ref x)])) _
    refine st2 _ ?_
    show Steps pP.tables eE below (T2.setTop (mkF mM 11 #[.val (.ref x), .val (.ref b), .val (.int (0 : Int32)), .val (.int (0 : Int32)), .val .null, .unset] [(.ref a2), (.ref x)])) _
    refine st8 _ ?_
    show Steps pP.tables eE below (T8.setTop (mkF mM 14 #[.val (.ref x), .val (.ref b), .val (.int (0 : Int32)), .val (.int (0 : Int32)), .val .null, .unset] [(.ref b2), (.ref x)])) _
    refine st11 _ ?_
    show Steps pP.tables eE below (T11.setTop (mkF mM 17 #[.val (.ref x), .val (.ref b), .val (.int (0 : Int32)), .val (.int (0 : Int32)), .val .null, .unset] [])) _
    refine XS.aloadN X11.here hx rfl (hb hby d_jdk_42_method_149_17) rfl rfl ?_
    show Steps pP.tables eE below (T11.setTop (mkF mM 18 #[.val (.ref x), .val (.ref b), .val (.int (0 : Int32)), .val (.int (0 : Int32)), .val .null, .unset] [(.ref x)])) _
    refine st16 _ ?_
    show Steps pP.tables eE below (T16.setTop (mkF mM 20 #[.val (.ref x), .val (.ref b), .val (.int (0 : Int32)), .val (.int (0 : Int32)), .val .null, .unset] [(.ref a16), (.ref x)])) _
    refine st22 _ ?_
    show Steps pP.tables eE below (T22.setTop (mkF mM 23 #[.val (.ref x), .val (.ref b), .val (.int (0 : Int32)), .val (.int (0 : Int32)), .val .null, .unset] [(.int (0 : Int32)), (.ref x)])) _
    refine st25 _ ?_
    show Steps pP.tables eE below (T25.setTop (mkF mM 26 #[.val (.ref x), .val (.ref b), .val (.int (0 : Int32)), .val (.int (0 : Int32)), .val .null, .unset] [])) _
    exact X25.returnOut hx Bd.returns (hb hby d_jdk_42_method_149_26) hr
  · show Q_se4 Z x b u1 u2 h0 n0 _ T25.heap _
    rw [e25]
    exact ⟨b2, kb2, rfl, N25, K29, (⟨f31, f32, Fw25, f33, (⟨by decide, by decide⟩ : ([] : List Int32).length ≤ 4000 ∧ ∀ c ∈ ([] : List Int32), ¬ c < 0 ∧ ¬ (255 : Int32) < c)⟩ : own_Str Z h25 x b2 kb2 [])⟩
  · show CHr Z own_EL sS.vm sS.heap T25.vm T25.heap
    rw [hh, e25]
    exact CH26.trans (CHv.at X25 hZ16 hEL CH26.1)
theorem ef_se1 (m : MethodId) (x0 : Addr) (x1 : Addr) : entryFrame m #[(.ref x0), (.ref x1)] 2 = mkF m 0 #[.val (.ref x0), .val (.ref x1)] [] := by first | (simp [entryFrame, mkF, argsToLocals, Value.category]; done) | rfl
def Q_se1 (Z : State) (x : Addr) (b : Addr) (u1 : Value) (u2 : Value) (kb : ClassId) (h0 : Heap) (n0 : Nat) (vV : Option Value) (h : Heap) (LL : List Loc) : Prop := ∃ (t : Addr) (k : ClassId), vV = none ∧ Fr n0 LL ∧ Keep h0 h [x] ∧ own_Str Z h x t k []
set_option maxRecDepth 65536 in
set_option maxHeartbeats 40000000 in
theorem rm_se1 (l : Launch) (Z : State) (a0 : Array Value) (hw : ∀ d ∈ tables_1, d.before a0 Z = true) (ws : List Jvm.Cond) (x : Addr) (b : Addr) (u1 : Value) (u2 : Value) (kb : ClassId) (h0 : Heap) (n0 : Nat) (O0 : Old Z n0 h0) (E_x : Exa Z h0 x "java/lang/String") (F_x_value : Fld Z h0 x "java/lang/String" "value" "[B" u1) (F_x_coder : Fld Z h0 x "java/lang/String" "coder" "B" u2) (g_x : n0 ≤ x) (V_b : Arv Z h0 b kb .char (0 : Int32) [] (.int (0 : Int32))) :
    MetFree l (⟨"java/lang/String", "<init>", "([C)V"⟩ : MethodName) (head1 (Jvm.Cond.code (⟨"java/lang/String", "<init>", "([C)V"⟩ : MethodName) jdk_42_method_3_code 2 none :: ws) ({ frames := 2, cells := 4, slots := 8, locals := 29 } : Room)) (fun aa_ U => aa_ = #[(.ref x), (.ref b)] ∧ Z.Warmed39 U.vm ∧ U.heap = h0 ∧ CHv Z own_EL U.vm h0 ∧ ∀ xX_ ∈ ([x] : List Addr), Safe Z own_EL U.vm h0 xX_) (fun _ _ _ _ _ => True) (fun _ U o U' => ∃ vV LL, o = .returned vV ∧ Q_se1 Z x b u1 u2 kb h0 n0 vV U'.heap LL ∧ CHr Z own_EL U.vm U.heap U'.vm U'.heap ∧ ReturnedEndW U o U' LL ({ frames := 2, cells := 4, slots := 8, locals := 29 } : Room).cells ({ frames := 2, cells := 4, slots := 8, locals := 29 } : Room).slots) := by
  refine MetFree.of_bodySF (plainFor_of_name pn_0) hisR ?_
  intro pP eE sS mM args below meth cC s₁ Bd hml0 hP hK
  obtain ⟨rfl, hZ, hh, hCH, hSf⟩ := hP
  have hx := Bd.exec
  have hby := Bd.bytes
  have hml : cC.maxLocals = 2 := hml0
  have hown : sS.vm.findClass "java/lang/String" = some mM.cls := findClass_of_methodNamed Bd.named
  have hnm := (name_of_methodNamed Bd.named Bd.method).1
  have X0 : Stand pP l eE ({ frames := 2, cells := 4, slots := 8, locals := 29 } : Room) (sS.setVm sS.vm) mM #[(.ref x), (.ref b)] below meth cC s₁ [] 0 0 := Stand.of_body Bd
  have e0 : s₁.heap = h0 := by rw [← hh, Bd.state]; rfl
  have N0 := Fr.nil n0
  have pre0 : ∀ tg, Steps pP.tables eE below (s₁.setTop (mkF mM 0 #[.val (.ref x), .val (.ref b)] [])) tg → Steps pP.tables eE below (s₁.setTop (entryFrame mM #[(.ref x), (.ref b)] 2)) tg := fun tg kg => castTop (ef_se1 mM x b) kg
  have K0 : Keep h0 h0 [x] := Keep.refl _ _
  have hZ0 : Z.Warmed39 (sS.setVm sS.vm).vm := hZ
  have hown0 : (sS.setVm sS.vm).vm.findClass "java/lang/String" = some mM.cls := hown
  have hS0 : sS.Since sS.vm 0 := (State.WarmedH.refl sS).since 0
  have hk0 : 0 ≤ h0.size := Nat.zero_le _
  have CH0 : CHr Z own_EL sS.vm h0 sS.vm h0 := CHr.refl hCH
  have hEL := own_EW hw
  have wS := own_wS hw
  have Sf_x : Safe Z own_EL sS.vm h0 x := hSf _ (List.mem_of_getElem? (i := 0) rfl)
  obtain ⟨cl1, Ar1, -, S1, Nn1, -, -⟩ := id V_b
  obtain ⟨_, _, ⟨T2, L2, k2, n2⟩, -, X2, hS22, hg22, ⟨Lc2, hQ2, l2, y2, z2, CHl2⟩, st2⟩ := X0.specialBackS hx (y := (⟨"java/lang/String", "<init>", "([CIILjava/lang/Void;)V"⟩ : MethodName)) rfl hown0 (mvT hZ0 (w_7 hw)) (mvT hZ0 (w_8 hw)) (mvT hZ0 (w_10 hw)) (by decide) (own_backOfSH (s := sS) (vm0 := sS.vm) (rm := ({ frames := 1, cells := 4, slots := 8, locals := 12 } : Room)) (W := 0) (rm_se4 l Z a0 hw [] x b u1 u2 h0 n0 O0 E_x F_x_value F_x_coder g_x) hZ0 (w_10 hw) (w_3 hw) (by decide) (by decide) hEL CH0.1 (own_sfS (E_x).lt Sf_x own_sf0)) (g := (mkF mM 6 #[.val (.ref x), .val (.ref b)] [.null, (.int (0 : Int32)), (.int (0 : Int32)), (.ref b), (.ref x)])) rfl (by rw [hml]; rfl) (Steps.refl _) (a := x) (argsL := [(.ref b), (.int (0 : Int32)), (.int (0 : Int32)), .null]) (rest := []) (lenOf pd_0 rfl) rfl (by show 2 * 0 + _ ≤ _; exact Nat.le_of_eq rfl) (hb hby d_jdk_42_method_3_6) (fun _ _ => ⟨rfl, e0, (by decide : 0 + 4 ≤ _), (by decide : 0 + 8 ≤ _)⟩)
  dsimp only [Pt.U, Pt.locs, Pt.cells, Pt.slots] at X2 l2 y2 z2 st2 hQ2 hS22 hg22 CHl2
  subst l2 y2 z2
  have hS2 := foldS hS0 (by rw [e0]; exact hk0) hS22 hg22
  have hZ2 : Z.Warmed39 (sS.setVm T2.vm).vm := State.Warmed39.trans (t := sS.setVm sS.vm) hZ0 hS22.1
  have hown2 : (sS.setVm T2.vm).vm.findClass "java/lang/String" = some mM.cls := by rw [show (sS.setVm T2.vm).vm = T2.vm from rfl, hS22.1.alike.findClass]; exact hown0
  have hk2 : T2.heap.size ≤ T2.heap.size := Nat.le_refl _
  replace X2 : Stand pP l eE ({ frames := 2, cells := 4, slots := 8, locals := 29 } : Room) (sS.setVm T2.vm) mM _ below meth cC T2 _ _ _ := X2
  obtain ⟨t_2, k_2, rfl, Nq2, Kq2, q2_0⟩ := hQ2
  have N2 := Fr.app N0 Nq2
  have CH3 : CHr Z own_EL sS.vm h0 T2.vm T2.heap := CH0.trans (CHl2)
  skip
  have K5 : Keep h0 T2.heap [x] := K0.trans Kq2 (allS (Or.inl (List.mem_of_getElem? (i := 0) rfl)) all0)
  obtain ⟨fs, hr, hrun, hended, hR1, hR2, hR3, hR4⟩ := Stand.leaveW (s := sS) (vm₁ := T2.vm) X2 hS2 (hk2) (v := none) (fun _ => rfl)
  refine ⟨_, _, pre0 _ ?_, hrun, hended, _, _, rfl, ?_, ?_, hR1, hR2, hR3, hR4.mono (by decide) (by decide)⟩
  · refine XS.aloadN X0.here hx rfl (hb hby d_jdk_42_method_3_0) rfl rfl ?_
    show Steps pP.tables eE below (s₁.setTop (mkF mM 1 #[.val (.ref x), .val (.ref b)] [(.ref x)])) _
    refine XS.aloadN X0.here hx rfl (hb hby d_jdk_42_method_3_1) rfl rfl ?_
    show Steps pP.tables eE below (s₁.setTop (mkF mM 2 #[.val (.ref x), .val (.ref b)] [(.ref b), (.ref x)])) _
    refine XS.iconst X0.here hx rfl (hb hby d_jdk_42_method_3_2) ?_
    show Steps pP.tables eE below (s₁.setTop (mkF mM 3 #[.val (.ref x), .val (.ref b)] [(.int (0 : Int32)), (.ref b), (.ref x)])) _
    refine XS.aloadN X0.here hx rfl (hb hby d_jdk_42_method_3_3) rfl rfl ?_
    show Steps pP.tables eE below (s₁.setTop (mkF mM 4 #[.val (.ref x), .val (.ref b)] [(.ref b), (.int (0 : Int32)), (.ref b), (.ref x)])) _
    refine X0.arraylength hx (by rw [e0]; exact Ar1.1) (State.isArrayOf_alike hZ0.alike Ar1.2.1) (g := (mkF mM 4 #[.val (.ref x), .val (.ref b)] [(.ref b), (.int (0 : Int32)), (.ref b), (.ref x)])) rfl rfl (hb hby d_jdk_42_method_3_4) _ ?_
    rw [len_of S1 Nn1]
    show Steps pP.tables eE below (s₁.setTop (mkF mM 5 #[.val (.ref x), .val (.ref b)] [(.int (0 : Int32)), (.int (0 : Int32)), (.ref b), (.ref x)])) _
    refine XS.aconstNull X0.here hx rfl (hb hby d_jdk_42_method_3_5) ?_
    show Steps pP.tables eE below (s₁.setTop (mkF mM 6 #[.val (.ref x), .val (.ref b)] [.null, (.int (0 : Int32)), (.int (0 : Int32)), (.ref b), (.ref x)])) _
    refine st2.trans ?_
    show Steps pP.tables eE below (T2.setTop (mkF mM 9 #[.val (.ref x), .val (.ref b)] [])) _
    exact X2.returnOut hx Bd.returns (hb hby d_jdk_42_method_3_9) hr
  · show Q_se1 Z x b u1 u2 kb h0 n0 _ T2.heap _
    exact ⟨t_2, k_2, rfl, N2, K5, (⟨(q2_0).1, (q2_0).2.1, (q2_0).2.2.1, (q2_0).2.2.2.1, (q2_0).2.2.2.2⟩ : own_Str Z T2.heap x t_2 k_2 [])⟩
  · show CHr Z own_EL sS.vm sS.heap T2.vm T2.heap
    rw [hh]
    exact CH3.trans (CHv.at X2 hZ2 hEL CH3.1)
theorem ef_cenc (m : MethodId) (x0 : Int32) : entryFrame m #[(.int x0)] 1 = mkF m 0 #[.val (.int x0)] [] := by first | (simp [entryFrame, mkF, argsToLocals, Value.category]; done) | rfl
def Q_cenc (Z : State) (p : Int32) (h0 : Heap) (n0 : Nat) (vV : Option Value) (h : Heap) (LL : List Loc) : Prop := vV = some (.int (1 : Int32)) ∧ LL = [] ∧ h = h0
set_option maxRecDepth 65536 in
set_option maxHeartbeats 40000000 in
theorem rm_cenc (l : Launch) (Z : State) (a0 : Array Value) (hw : ∀ d ∈ tables_1, d.before a0 Z = true) (ws : List Jvm.Cond) (p : Int32) (h0 : Heap) (n0 : Nat) (O0 : Old Z n0 h0) (hp0 : (¬ ((255 : Int32) < p))) :
    MetFree l (⟨"java/lang/StringLatin1", "canEncode", "(C)Z"⟩ : MethodName) (head1 (Jvm.Cond.code (⟨"java/lang/StringLatin1", "canEncode", "(C)Z"⟩ : MethodName) jdk_43_method_3_code 1 (some .boolean) :: ws) ({ frames := 0, cells := 0, slots := 0, locals := 0 } : Room)) (fun aa_ U => aa_ = #[(.int p)] ∧ Z.Warmed39 U.vm ∧ U.heap = h0) (fun _ _ _ _ _ => True) (fun _ U o U' => ∃ vV LL, o = .returned vV ∧ Q_cenc Z p h0 n0 vV U'.heap LL ∧ FrameEnd U o U' LL ({ frames := 0, cells := 0, slots := 0, locals := 0 } : Room).cells ({ frames := 0, cells := 0, slots := 0, locals := 0 } : Room).slots) := by
  refine MetFree.of_bodySF (plainFor_of_name pn_1) hisR ?_
  intro pP eE sS mM args below meth cC s₁ Bd hml0 hP hK
  obtain ⟨rfl, hZ, hh⟩ := hP
  have hx := Bd.exec
  have hby := Bd.bytes
  have hml : cC.maxLocals = 1 := hml0
  have hown : sS.vm.findClass "java/lang/StringLatin1" = some mM.cls := findClass_of_methodNamed Bd.named
  have hnm := (name_of_methodNamed Bd.named Bd.method).1
  have X0 : Stand pP l eE ({ frames := 0, cells := 0, slots := 0, locals := 0 } : Room) sS mM #[(.int p)] below meth cC s₁ [] 0 0 := Stand.of_body Bd
  have e0 : s₁.heap = h0 := by rw [← hh, Bd.state]; rfl
  have N0 := Fr.nil n0
  have pre0 : ∀ tg, Steps pP.tables eE below (s₁.setTop (mkF mM 0 #[.val (.int p)] [])) tg → Steps pP.tables eE below (s₁.setTop (entryFrame mM #[(.int p)] 1)) tg := fun tg kg => castTop (ef_cenc mM p) kg
  obtain ⟨fs, hr, hrun, hended, hW, hsame⟩ := X0.leave (v := some (.int (1 : Int32))) (fun h => by rw [Bd.returns] at h; cases h)
  refine ⟨_, _, pre0 _ ?_, hrun, hended, _, _, rfl, ?_, ⟨_, rfl⟩, hW, hsame.mono (by decide) (by decide)⟩
  · refine XS.iloadN X0.here hx rfl (hb hby d_jdk_43_method_3_0) rfl ?_
    show Steps pP.tables eE below (s₁.setTop (mkF mM 1 #[.val (.int p)] [(.int p)])) _
    refine XS.sipush X0.here hx rfl (hb hby d_jdk_43_method_3_1) ?_
    show Steps pP.tables eE below (s₁.setTop (mkF mM 4 #[.val (.int p)] [(.int (255 : Int32)), (.int p)])) _
    refine XS.icmpNo X0.here hx rfl (hb hby d_jdk_43_method_3_4) rfl (flt hp0).2.2.1 ?_
    show Steps pP.tables eE below (s₁.setTop (mkF mM 7 #[.val (.int p)] [])) _
    refine XS.iconst X0.here hx rfl (hb hby d_jdk_43_method_3_7) ?_
    show Steps pP.tables eE below (s₁.setTop (mkF mM 8 #[.val (.int p)] [(.int (1 : Int32))])) _
    refine XS.goto X0.here hx rfl (pc0 := 8) (pc' := 12) rfl (hb hby d_jdk_43_method_3_8) (by decide) (by decide) ?_
    show Steps pP.tables eE below (s₁.setTop (mkF mM 12 #[.val (.int p)] [(.int (1 : Int32))])) _
    exact retN X0 hx (t := .boolean) Bd.returns (by simp) (hb hby d_jdk_43_method_3_12) hr
  · show Q_cenc Z p h0 n0 _ s₁.heap _
    rw [e0]
    exact ⟨rfl, rfl, rfl⟩
theorem ef_tob (m : MethodId) (x0 : Int32) : entryFrame m #[(.int x0)] 1 = mkF m 0 #[.val (.int x0)] [] := by first | (simp [entryFrame, mkF, argsToLocals, Value.category]; done) | rfl
def Q_tob (Z : State) (p : Int32) (h0 : Heap) (n0 : Nat) (vV : Option Value) (h : Heap) (LL : List Loc) : Prop := ∃ (b : Addr) (k : ClassId), vV = some (.ref b) ∧ Fr n0 LL ∧ Keep h0 h [] ∧ h0.size ≤ b ∧ Arv Z h b k .byte (1 : Int32) [(.int (p.toInt8.toInt32))] (.int (0 : Int32))
set_option maxRecDepth 65536 in
set_option maxHeartbeats 40000000 in
theorem rm_tob (l : Launch) (Z : State) (a0 : Array Value) (hw : ∀ d ∈ tables_1, d.before a0 Z = true) (ws : List Jvm.Cond) (p : Int32) (h0 : Heap) (n0 : Nat) (O0 : Old Z n0 h0) :
    MetFree l (⟨"java/lang/StringLatin1", "toBytes", "(C)[B"⟩ : MethodName) (head1 (Jvm.Cond.code (⟨"java/lang/StringLatin1", "toBytes", "(C)[B"⟩ : MethodName) jdk_43_method_46_code 1 (some (.array .byte)) :: ws) ({ frames := 0, cells := 1, slots := 1, locals := 0 } : Room)) (fun aa_ U => aa_ = #[(.int p)] ∧ Z.Warmed39 U.vm ∧ U.heap = h0) (fun _ _ _ _ _ => True) (fun _ U o U' => ∃ vV LL, o = .returned vV ∧ Q_tob Z p h0 n0 vV U'.heap LL ∧ FrameEnd U o U' LL ({ frames := 0, cells := 1, slots := 1, locals := 0 } : Room).cells ({ frames := 0, cells := 1, slots := 1, locals := 0 } : Room).slots) := by
  refine MetFree.of_bodySF (plainFor_of_name pn_1) hisR ?_
  intro pP eE sS mM args below meth cC s₁ Bd hml0 hP hK
  obtain ⟨rfl, hZ, hh⟩ := hP
  have hx := Bd.exec
  have hby := Bd.bytes
  have hml : cC.maxLocals = 1 := hml0
  have hown : sS.vm.findClass "java/lang/StringLatin1" = some mM.cls := findClass_of_methodNamed Bd.named
  have hnm := (name_of_methodNamed Bd.named Bd.method).1
  have X0 : Stand pP l eE ({ frames := 0, cells := 1, slots := 1, locals := 0 } : Room) sS mM #[(.int p)] below meth cC s₁ [] 0 0 := Stand.of_body Bd
  have e0 : s₁.heap = h0 := by rw [← hh, Bd.state]; rfl
  have N0 := Fr.nil n0
  have pre0 : ∀ tg, Steps pP.tables eE below (s₁.setTop (mkF mM 0 #[.val (.int p)] [])) tg → Steps pP.tables eE below (s₁.setTop (entryFrame mM #[(.int p)] 1)) tg := fun tg kg => castTop (ef_tob mM p) kg
  have K0 : Keep h0 h0 [] := Keep.refl _ _
  obtain ⟨T1, h1, k1, X1, e1, E1, A1, st1⟩ := newP X0 hx hZ (aty := .byte) (w_19 hw) e0 (g := (mkF mM 1 #[.val (.int p)] [(.int (1 : Int32))])) rfl (hb hby d_jdk_43_method_46_1) rfl (by decide) (cap := 1) (by decide) (by decide) (by decide) (by decide)
  obtain ⟨b1, g1⟩ : ∃ z, z = h0.size := ⟨_, rfl⟩
  rw [← g1] at A1 st1
  have g_b1 : n0 ≤ b1 := Nat.le_trans (own_osz O0) (Nat.le_of_eq g1.symm)
  have sz_b1 : h0.size ≤ b1 := Nat.le_trans K0.1 (Nat.le_of_eq g1.symm)
  have K2 : Keep h0 h1 [] := K0.ext E1
  have V1 : Arv Z h1 b1 k1 .byte (1 : Int32) [(.int (0 : Int32))] (.int (0 : Int32)) := (Arv.new A1 (by decide)).pad (pad_rep [] (.int (0 : Int32)) 1)
  obtain ⟨cl3, Ar3, qk3, S3, Nn3, Hh3, G3⟩ := id V1
  have hin3 : ¬ ((0 : Int32) < 0 ∨ cl3.slots.size ≤ ((0 : Int32)).toNatClampNeg) := inb_of S3 ⟨by decide, by decide⟩
  obtain ⟨T3, h3, X3, e3, W3, st3⟩ := stB X1 hx hZ e1 Ar3 (j := (0 : Int32)) hin3 (g := (mkF mM 7 #[.val (.int p)] [(.int (p.toInt8.toInt32)), (.int (0 : Int32)), (.ref b1), (.ref b1)])) rfl rfl (hb hby d_jdk_43_method_46_7)
  rw [own_nb p] at W3
  have K4 : Keep h0 h3 [] := K2.wr W3 (Or.inr sz_b1)
  have V3 : Arv Z h3 b1 k1 .byte (1 : Int32) [(.int (p.toInt8.toInt32))] (.int (0 : Int32)) := Arv.set Ar3 qk3 S3 Nn3 Hh3 G3 (own_nb p ▸ fits_nar_byte _) W3 0 rfl (Nat.le_of_ble_eq_true rfl)
  have N3 := Fr.snoc X3 N0 g_b1
  obtain ⟨fs, hr, hrun, hended, hW, hsame⟩ := X3.leave (v := some (.ref b1)) (fun h => by rw [Bd.returns] at h; cases h)
  refine ⟨_, _, pre0 _ ?_, hrun, hended, _, _, rfl, ?_, ⟨_, rfl⟩, hW, hsame.mono (by decide) (by decide)⟩
  · refine XS.iconst X0.here hx rfl (hb hby d_jdk_43_method_46_0) ?_
    show Steps pP.tables eE below (s₁.setTop (mkF mM 1 #[.val (.int p)] [(.int (1 : Int32))])) _
    refine st1 _ ?_
    show Steps pP.tables eE below (T1.setTop (mkF mM 3 #[.val (.int p)] [(.ref b1)])) _
    refine XS.dup X1.here hx rfl (hb hby d_jdk_43_method_46_3) rfl rfl ?_
    show Steps pP.tables eE below (T1.setTop (mkF mM 4 #[.val (.int p)] [(.ref b1), (.ref b1)])) _
    refine XS.iconst X1.here hx rfl (hb hby d_jdk_43_method_46_4) ?_
    show Steps pP.tables eE below (T1.setTop (mkF mM 5 #[.val (.int p)] [(.int (0 : Int32)), (.ref b1), (.ref b1)])) _
    refine XS.iloadN X1.here hx rfl (hb hby d_jdk_43_method_46_5) rfl ?_
    show Steps pP.tables eE below (T1.setTop (mkF mM 6 #[.val (.int p)] [(.int p), (.int (0 : Int32)), (.ref b1), (.ref b1)])) _
    refine XS.i2b X1.here hx rfl (hb hby d_jdk_43_method_46_6) rfl ?_
    show Steps pP.tables eE below (T1.setTop (mkF mM 7 #[.val (.int p)] [(.int (p.toInt8.toInt32)), (.int (0 : Int32)), (.ref b1), (.ref b1)])) _
    refine st3 _ ?_
    show Steps pP.tables eE below (T3.setTop (mkF mM 8 #[.val (.int p)] [(.ref b1)])) _
    jvm_step X3.here [X3.here.top, hx, (hb hby d_jdk_43_method_46_8), X3.method', Bd.returns, Value.isRef, FieldType.isReference]
    first | (intro acts; rw [hr _ acts rfl rfl rfl]) | rw [hr _ _ rfl rfl rfl]
    exact Steps.refl _
  · show Q_tob Z p h0 n0 _ T3.heap _
    rw [e3]
    exact ⟨b1, k1, rfl, N3, K4, sz_b1, V3⟩
theorem ef_sbb (m : MethodId) (x0 : Addr) (x1 : Addr) (x2 : Int32) : entryFrame m #[(.ref x0), (.ref x1), (.int x2)] 3 = mkF m 0 #[.val (.ref x0), .val (.ref x1), .val (.int x2)] [] := by first | (simp [entryFrame, mkF, argsToLocals, Value.category]; done) | rfl
def Q_sbb (Z : State) (x : Addr) (b : Addr) (u1 : Value) (u2 : Value) (h0 : Heap) (n0 : Nat) (vV : Option Value) (h : Heap) (LL : List Loc) : Prop := vV = none ∧ Fr n0 LL ∧ Keep h0 h [x] ∧ Exa Z h x "java/lang/String" ∧ Fld Z h x "java/lang/String" "value" "[B" (.ref b) ∧ Fld Z h x "java/lang/String" "coder" "B" (.int (0 : Int32))
set_option maxRecDepth 65536 in
set_option maxHeartbeats 40000000 in
theorem rm_sbb (l : Launch) (Z : State) (a0 : Array Value) (hw : ∀ d ∈ tables_1, d.before a0 Z = true) (ws : List Jvm.Cond) (x : Addr) (b : Addr) (u1 : Value) (u2 : Value) (h0 : Heap) (n0 : Nat) (O0 : Old Z n0 h0) (E_x : Exa Z h0 x "java/lang/String") (F_x_value : Fld Z h0 x "java/lang/String" "value" "[B" u1) (F_x_coder : Fld Z h0 x "java/lang/String" "coder" "B" u2) (g_x : n0 ≤ x) :
    MetFree l (⟨"java/lang/String", "<init>", "([BB)V"⟩ : MethodName) (head1 (Jvm.Cond.code (⟨"java/lang/String", "<init>", "([BB)V"⟩ : MethodName) jdk_42_method_151_code 3 none :: ws) ({ frames := 1, cells := 0, slots := 0, locals := 12 } : Room)) (fun aa_ U => aa_ = #[(.ref x), (.ref b), (.int (0 : Int32))] ∧ Z.Warmed39 U.vm ∧ U.heap = h0) (fun _ _ _ _ _ => True) (fun _ U o U' => ∃ vV LL, o = .returned vV ∧ Q_sbb Z x b u1 u2 h0 n0 vV U'.heap LL ∧ FrameEnd U o U' LL ({ frames := 1, cells := 0, slots := 0, locals := 12 } : Room).cells ({ frames := 1, cells := 0, slots := 0, locals := 12 } : Room).slots) := by
  refine MetFree.of_bodySF (plainFor_of_name pn_0) hisR ?_
  intro pP eE sS mM args below meth cC s₁ Bd hml0 hP hK
  obtain ⟨rfl, hZ, hh⟩ := hP
  have hx := Bd.exec
  have hby := Bd.bytes
  have hml : cC.maxLocals = 3 := hml0
  have hown : sS.vm.findClass "java/lang/String" = some mM.cls := findClass_of_methodNamed Bd.named
  have hnm := (name_of_methodNamed Bd.named Bd.method).1
  have X0 : Stand pP l eE ({ frames := 1, cells := 0, slots := 0, locals := 12 } : Room) sS mM #[(.ref x), (.ref b), (.int (0 : Int32))] below meth cC s₁ [] 0 0 := Stand.of_body Bd
  have e0 : s₁.heap = h0 := by rw [← hh, Bd.state]; rfl
  have N0 := Fr.nil n0
  have pre0 : ∀ tg, Steps pP.tables eE below (s₁.setTop (mkF mM 0 #[.val (.ref x), .val (.ref b), .val (.int (0 : Int32))] [])) tg → Steps pP.tables eE below (s₁.setTop (entryFrame mM #[(.ref x), (.ref b), (.int (0 : Int32))] 3)) tg := fun tg kg => castTop (ef_sbb mM x b (0 : Int32)) kg
  have K0 : Keep h0 h0 [x] := Keep.refl _ _
  obtain ⟨T1, X1, e1, st1⟩ := initO X0 hx hZ hown (w_11 hw) (w_12 hw) (w_13 hw) e0 (g := (mkF mM 1 #[.val (.ref x), .val (.ref b), .val (.int (0 : Int32))] [(.ref x)])) rfl (by rw [hml]; rfl) rfl (hb hby d_jdk_42_method_151_1) (by decide) (W := 0) (by show 2 * 0 + _ ≤ _; exact Nat.le_of_eq rfl) (by decide)
  obtain ⟨T2, h2, X2, e2, W2, st2⟩ := putF X1 hx hZ hown (host := "") (Or.inl (w_28 hw)) Via.refl e1 F_x_value E_x (Or.inr ⟨(w_29 hw), rfl, hnm⟩) (w_2 hw) (ty := (.array .byte)) (by decide) rfl rfl (g := (mkF mM 6 #[.val (.ref x), .val (.ref b), .val (.int (0 : Int32))] [(.ref b), (.ref x)])) rfl rfl (hb hby d_jdk_42_method_151_6)
  have K3 : Keep h0 h2 [x] := K0.wr W2 (Or.inl (List.mem_of_getElem? (i := 0) rfl))
  have Fw2 : Fld Z h2 x "java/lang/String" "value" "[B" (.ref b) := F_x_value.same W2
  have N2 := Fr.snoc X2 N0 g_x
  have f4 := (F_x_coder.other W2 (Or.inr (slot_ne (Or.inr (w_27 hw)) (Or.inr (w_29 hw)) (by decide) (t := .byte) (t' := (.array .byte)) (by decide) (by decide))))
  have f5 := (E_x.wr W2)
  obtain ⟨T6, h6, X6, e6, W6, st6⟩ := putFN X2 hx hZ hown (w_26 hw) Via.refl e2 f4 f5 (Or.inr ⟨(w_27 hw), rfl, hnm⟩) (w_2 hw) (ty := .byte) (v' := (.int (nar .byte (0 : Int32)))) (by decide) rfl (fits_nar_byte _) (g := (mkF mM 11 #[.val (.ref x), .val (.ref b), .val (.int (0 : Int32))] [(.int (0 : Int32)), (.ref x)])) rfl rfl (hb hby d_jdk_42_method_151_11)
  have K7 : Keep h0 h6 [x] := K3.wr W6 (Or.inl (List.mem_of_getElem? (i := 0) rfl))
  have Fw6 : Fld Z h6 x "java/lang/String" "coder" "B" (.int (0 : Int32)) := f4.same W6
  have N6 := Fr.snoc X6 N2 g_x
  have f9 := (f5.wr W6)
  have f10 := (Fw2.other W6 (Or.inr (slot_ne (Or.inr (w_29 hw)) (Or.inr (w_27 hw)) (by decide) (t := (.array .byte)) (t' := .byte) (by decide) (by decide))))
  obtain ⟨fs, hr, hrun, hended, hW, hsame⟩ := X6.leave (v := none) (fun _ => rfl)
  refine ⟨_, _, pre0 _ ?_, hrun, hended, _, _, rfl, ?_, ⟨_, rfl⟩, hW, hsame.mono (by decide) (by decide)⟩
  · refine XS.aloadN X0.here hx rfl (hb hby d_jdk_42_method_151_0) rfl rfl ?_
    show Steps pP.tables eE below (s₁.setTop (mkF mM 1 #[.val (.ref x), .val (.ref b), .val (.int (0 : Int32))] [(.ref x)])) _
    refine st1 _ ?_
    show Steps pP.tables eE below (T1.setTop (mkF mM 4 #[.val (.ref x), .val (.ref b), .val (.int (0 : Int32))] [])) _
    refine XS.aloadN X1.here hx rfl (hb hby d_jdk_42_method_151_4) rfl rfl ?_
    show Steps pP.tables eE below (T1.setTop (mkF mM 5 #[.val (.ref x), .val (.ref b), .val (.int (0 : Int32))] [(.ref x)])) _
    refine XS.aloadN X1.here hx rfl (hb hby d_jdk_42_method_151_5) rfl rfl ?_
    show Steps pP.tables eE below (T1.setTop (mkF mM 6 #[.val (.ref x), .val (.ref b), .val (.int (0 : Int32))] [(.ref b), (.ref x)])) _
    refine st2 _ ?_
    show Steps pP.tables eE below (T2.setTop (mkF mM 9 #[.val (.ref x), .val (.ref b), .val (.int (0 : Int32))] [])) _
    refine XS.aloadN X2.here hx rfl (hb hby d_jdk_42_method_151_9) rfl rfl ?_
    show Steps pP.tables eE below (T2.setTop (mkF mM 10 #[.val (.ref x), .val (.ref b), .val (.int (0 : Int32))] [(.ref x)])) _
    refine XS.iloadN X2.here hx rfl (hb hby d_jdk_42_method_151_10) rfl ?_
    show Steps pP.tables eE below (T2.setTop (mkF mM 11 #[.val (.ref x), .val (.ref b), .val (.int (0 : Int32))] [(.int (0 : Int32)), (.ref x)])) _
    refine st6 _ ?_
    show Steps pP.tables eE below (T6.setTop (mkF mM 14 #[.val (.ref x), .val (.ref b), .val (.int (0 : Int32))] [])) _
    exact X6.returnOut hx Bd.returns (hb hby d_jdk_42_method_151_14) hr
  · show Q_sbb Z x b u1 u2 h0 n0 _ T6.heap _
    rw [e6]
    exact ⟨rfl, N6, K7, f9, f10, Fw6⟩
theorem ef_vof (m : MethodId) (x0 : Int32) : entryFrame m #[(.int x0)] 1 = mkF m 0 #[.val (.int x0)] [] := by first | (simp [entryFrame, mkF, argsToLocals, Value.category]; done) | rfl
def Q_vof (Z : State) (p : Int32) (zc : Int32) (h0 : Heap) (n0 : Nat) (vV : Option Value) (h : Heap) (LL : List Loc) : Prop := ∃ (b : Addr) (t : Addr) (k : ClassId), vV = some (.ref b) ∧ Fr n0 LL ∧ Keep h0 h [] ∧ h0.size ≤ b ∧ h0.size ≤ t ∧ own_Str Z h b t k [p]
set_option maxRecDepth 65536 in
set_option maxHeartbeats 40000000 in
theorem rm_vof (l : Launch) (Z : State) (a0 : Array Value) (hw : ∀ d ∈ tables_1, d.before a0 Z = true) (ws : List Jvm.Cond) (p : Int32) (zc : Int32) (h0 : Heap) (n0 : Nat) (O0 : Old Z n0 h0) (hp0 : (¬ p < 0 ∧ ¬ (255 : Int32) < p)) (S_COMPACT_STRINGS : Sta Z Z.heap "java/lang/String" "COMPACT_STRINGS" "Z" (.int zc)) (hp2 : (¬ (zc = (0 : Int32)))) :
    MetFree l (⟨"java/lang/String", "valueOf", "(C)Ljava/lang/String;"⟩ : MethodName) (head1 (Jvm.Cond.code (⟨"java/lang/String", "valueOf", "(C)Ljava/lang/String;"⟩ : MethodName) jdk_42_method_139_code 1 (some (.object "java/lang/String")) :: ws) ({ frames := 2, cells := 2, slots := 5, locals := 27 } : Room)) (fun aa_ U => aa_ = #[(.int p)] ∧ Z.Warmed39 U.vm ∧ U.heap = h0) (fun _ _ _ _ _ => True) (fun _ U o U' => ∃ vV LL, o = .returned vV ∧ Q_vof Z p zc h0 n0 vV U'.heap LL ∧ FrameEnd U o U' LL ({ frames := 2, cells := 2, slots := 5, locals := 27 } : Room).cells ({ frames := 2, cells := 2, slots := 5, locals := 27 } : Room).slots) := by
  refine MetFree.of_bodySF (plainFor_of_name pn_0) hisR ?_
  intro pP eE sS mM args below meth cC s₁ Bd hml0 hP hK
  obtain ⟨rfl, hZ, hh⟩ := hP
  have hx := Bd.exec
  have hby := Bd.bytes
  have hml : cC.maxLocals = 1 := hml0
  have hown : sS.vm.findClass "java/lang/String" = some mM.cls := findClass_of_methodNamed Bd.named
  have hnm := (name_of_methodNamed Bd.named Bd.method).1
  have X0 : Stand pP l eE ({ frames := 2, cells := 2, slots := 5, locals := 27 } : Room) sS mM #[(.int p)] below meth cC s₁ [] 0 0 := Stand.of_body Bd
  have e0 : s₁.heap = h0 := by rw [← hh, Bd.state]; rfl
  have N0 := Fr.nil n0
  have pre0 : ∀ tg, Steps pP.tables eE below (s₁.setTop (mkF mM 0 #[.val (.int p)] [])) tg → Steps pP.tables eE below (s₁.setTop (entryFrame mM #[(.int p)] 1)) tg := fun tg kg => castTop (ef_vof mM p) kg
  have K0 : Keep h0 h0 [] := Keep.refl _ _
  obtain ⟨T1, X1, e1, st1⟩ := getS2 X0 hx hZ hown (host := "") (Or.inl (w_14 hw)) Via.refl e0 (Sta.ext (O0).2 S_COMPACT_STRINGS) (g := (mkF mM 0 #[.val (.int p)] [])) rfl (hb hby d_jdk_42_method_139_0)
  obtain ⟨_, _, ⟨T2, L2, k2, n2⟩, -, X2, ⟨Lc2, hQ2, l2, y2, z2⟩, st2⟩ := Jvm.LawKit.callS X1 hx (y := (⟨"java/lang/StringLatin1", "canEncode", "(C)Z"⟩ : MethodName)) hown (mvT hZ (w_76 hw)) (mvT hZ (w_77 hw)) (mvT hZ (w_78 hw)) (mvT hZ (w_79 hw)) (by decide) (backOf (W := 0) (rm_cenc l Z a0 hw [] p h0 n0 O0 (hp0.2 : ¬ ((255 : Int32) < p))) hZ (w_79 hw) (w_78 hw) (by decide) (by decide)) (g := (mkF mM 7 #[.val (.int p)] [(.int p)])) rfl (by rw [hml]; rfl) (argsL := [(.int p)]) (rest := []) (lenOf pd_1 rfl) rfl (by show 2 * 0 + _ ≤ _; exact Nat.le_of_eq rfl) (hb hby d_jdk_42_method_139_7) (fun _ _ => ⟨rfl, e1, (by decide : 0 + 0 ≤ _), (by decide : 0 + 0 ≤ _)⟩)
  dsimp only [Pt.U, Pt.locs, Pt.cells, Pt.slots] at X2 l2 y2 z2 st2 hQ2
  subst l2 y2 z2
  obtain ⟨rfl, rfl, Kq2⟩ := hQ2
  try rw [List.append_nil] at X2
  obtain ⟨T3, h3, X3, e3, E3, A3, D3, -, st3⟩ := newO X2 hx hZ hown (w_80 hw) (w_2 hw) (w_3 hw) Kq2 (g := (mkF mM 13 #[.val (.int p)] [])) rfl (hb hby d_jdk_42_method_139_13) (by decide) (by decide)
  obtain ⟨b3, g3⟩ : ∃ z, z = h0.size := ⟨_, rfl⟩
  rw [← g3] at A3 D3 st3
  have g_b3 : n0 ≤ b3 := Nat.le_trans (own_osz O0) (Nat.le_of_eq g3.symm)
  have sz_b3 : h0.size ≤ b3 := Nat.le_trans K0.1 (Nat.le_of_eq g3.symm)
  have K4 : Keep h0 h3 [] := K0.ext E3
  have F_b3_coder : Fld Z h3 b3 "java/lang/String" "coder" "B" (.int (0 : Int32)) := D3 (Or.inr (w_27 hw)) (ty := .byte) (by decide)
  have F_b3_value : Fld Z h3 b3 "java/lang/String" "value" "[B" .null := D3 (Or.inr (w_29 hw)) (ty := (.array .byte)) (by decide)
  have f5 := (O0.ext E3)
  obtain ⟨_, _, ⟨T6, L6, k6, n6⟩, -, X6, ⟨Lc6, hQ6, l6, y6, z6⟩, st6⟩ := Jvm.LawKit.callS X3 hx (y := (⟨"java/lang/StringLatin1", "toBytes", "(C)[B"⟩ : MethodName)) hown (mvT hZ (w_81 hw)) (mvT hZ (w_82 hw)) (mvT hZ (w_78 hw)) (mvT hZ (w_83 hw)) (by decide) (backOf (W := 2) (rm_tob l Z a0 hw [] p h3 n0 f5 ) hZ (w_83 hw) (w_78 hw) (by decide) (by decide)) (g := (mkF mM 18 #[.val (.int p)] [(.int p), (.ref b3), (.ref b3)])) rfl (by rw [hml]; rfl) (argsL := [(.int p)]) (rest := [(.ref b3), (.ref b3)]) (lenOf pd_2 rfl) rfl (by show 2 * 0 + _ ≤ _; exact Nat.le_of_eq rfl) (hb hby d_jdk_42_method_139_18) (fun _ _ => ⟨rfl, e3, (by decide : 1 + 1 ≤ _), (by decide : 4 + 1 ≤ _)⟩)
  dsimp only [Pt.U, Pt.locs, Pt.cells, Pt.slots] at X6 l6 y6 z6 st6 hQ6
  subst l6 y6 z6
  obtain ⟨b_6, k_6, rfl, Nq6, Kq6, q6_0, q6_1⟩ := hQ6
  have N6 := Fr.app N0 Nq6
  have g_b_6 : n0 ≤ b_6 := Nat.le_trans (own_osz f5) q6_0
  have sz_b_6 : h0.size ≤ b_6 := Nat.le_trans K4.1 q6_0
  have K7 : Keep h0 T6.heap [] := K4.trans Kq6 all0
  have f8 := (A3.keep Kq6)
  have f9 := (F_b3_value.keep Kq6 nin0)
  have f10 := (F_b3_coder.keep Kq6 nin0)
  have f11 := (f5.keep Kq6 all0)
  obtain ⟨_, _, ⟨T12, L12, k12, n12⟩, -, X12, ⟨Lc12, hQ12, l12, y12, z12⟩, st12⟩ := X6.specialBack hx (y := (⟨"java/lang/String", "<init>", "([BB)V"⟩ : MethodName)) rfl hown (mvT hZ (w_84 hw)) (mvT hZ (w_85 hw)) (mvT hZ (w_86 hw)) (by decide) (backOf (W := 1) (rm_sbb l Z a0 hw [] b3 b_6 .null (.int (0 : Int32)) T6.heap n0 f11 f8 f9 f10 g_b3) hZ (w_86 hw) (w_3 hw) (by decide) (by decide)) (g := (mkF mM 22 #[.val (.int p)] [(.int (0 : Int32)), (.ref b_6), (.ref b3), (.ref b3)])) rfl (by rw [hml]; rfl) (Steps.refl _) (a := b3) (argsL := [(.ref b_6), (.int (0 : Int32))]) (rest := [(.ref b3)]) (lenOf pd_3 rfl) rfl (by show 2 * 0 + _ ≤ _; exact Nat.le_of_eq rfl) (hb hby d_jdk_42_method_139_22) (fun _ _ => ⟨rfl, rfl, (by decide : 2 + 0 ≤ _), (by decide : 5 + 0 ≤ _)⟩)
  dsimp only [Pt.U, Pt.locs, Pt.cells, Pt.slots] at X12 l12 y12 z12 st12 hQ12
  subst l12 y12 z12
  obtain ⟨rfl, Nq12, Kq12, q12_0, q12_1, q12_2⟩ := hQ12
  have N12 := Fr.app N6 Nq12
  have K13 : Keep h0 T12.heap [] := K7.trans Kq12 (allS (Or.inr sz_b3) all0)
  have f15 := (q6_1.keep Kq12 (ninS (Ne.symm (Nat.ne_of_lt (Nat.lt_of_lt_of_le (A3).lt q6_0))) nin0))
  obtain ⟨fs, hr, hrun, hended, hW, hsame⟩ := X12.leave (v := some (.ref b3)) (fun h => by rw [Bd.returns] at h; cases h)
  refine ⟨_, _, pre0 _ ?_, hrun, hended, _, _, rfl, ?_, ⟨_, rfl⟩, hW, hsame.mono (by decide) (by decide)⟩
  · refine st1 _ ?_
    show Steps pP.tables eE below (T1.setTop (mkF mM 3 #[.val (.int p)] [(.int zc)])) _
    refine XS.ifNo X1.here hx rfl (hb hby d_jdk_42_method_139_3) rfl ((if0 _ _).trans (feq hp2).1) ?_
    show Steps pP.tables eE below (T1.setTop (mkF mM 6 #[.val (.int p)] [])) _
    refine XS.iloadN X1.here hx rfl (hb hby d_jdk_42_method_139_6) rfl ?_
    show Steps pP.tables eE below (T1.setTop (mkF mM 7 #[.val (.int p)] [(.int p)])) _
    refine st2 _ ?_
    show Steps pP.tables eE below (T2.setTop (mkF mM 10 #[.val (.int p)] [(.int (1 : Int32))])) _
    refine XS.ifNo X2.here hx rfl (hb hby d_jdk_42_method_139_10) rfl ((if0 _ _).trans (feq (by decide : ¬ ((1 : Int32) = (0 : Int32)))).1) ?_
    show Steps pP.tables eE below (T2.setTop (mkF mM 13 #[.val (.int p)] [])) _
    refine st3 _ ?_
    show Steps pP.tables eE below (T3.setTop (mkF mM 16 #[.val (.int p)] [(.ref b3)])) _
    refine XS.dup X3.here hx rfl (hb hby d_jdk_42_method_139_16) rfl rfl ?_
    show Steps pP.tables eE below (T3.setTop (mkF mM 17 #[.val (.int p)] [(.ref b3), (.ref b3)])) _
    refine XS.iloadN X3.here hx rfl (hb hby d_jdk_42_method_139_17) rfl ?_
    show Steps pP.tables eE below (T3.setTop (mkF mM 18 #[.val (.int p)] [(.int p), (.ref b3), (.ref b3)])) _
    refine st6 _ ?_
    show Steps pP.tables eE below (T6.setTop (mkF mM 21 #[.val (.int p)] [(.ref b_6), (.ref b3), (.ref b3)])) _
    refine XS.iconst X6.here hx rfl (hb hby d_jdk_42_method_139_21) ?_
    show Steps pP.tables eE below (T6.setTop (mkF mM 22 #[.val (.int p)] [(.int (0 : Int32)), (.ref b_6), (.ref b3), (.ref b3)])) _
    refine st12.trans ?_
    show Steps pP.tables eE below (T12.setTop (mkF mM 25 #[.val (.int p)] [(.ref b3)])) _
    jvm_step X12.here [X12.here.top, hx, (hb hby d_jdk_42_method_139_25), X12.method', Bd.returns, Value.isRef, FieldType.isReference]
    first | (intro acts; rw [hr _ acts rfl rfl rfl]) | rw [hr _ _ rfl rfl rfl]
    exact Steps.refl _
  · show Q_vof Z p zc h0 n0 _ T12.heap _
    exact ⟨b3, b_6, k_6, rfl, N12, K13, sz_b3, sz_b_6, (⟨q12_0, q12_1, q12_2, f15, (⟨Nat.le_of_ble_eq_true rfl, fun c hc => by rw [List.mem_singleton.mp hc]; exact hp0⟩ : ([p] : List Int32).length ≤ 4000 ∧ ∀ c ∈ ([p] : List Int32), ¬ c < 0 ∧ ¬ (255 : Int32) < c)⟩ : own_Str Z T12.heap b3 b_6 k_6 [p])⟩
theorem ef_seqs (m : MethodId) (x0 : Addr) (x1 : Addr) : entryFrame m #[(.ref x0), (.ref x1)] 3 = mkF m 0 #[.val (.ref x0), .val (.ref x1), .unset] [] := by first | (simp [entryFrame, mkF, argsToLocals, Value.category]; done) | rfl
def Q_seqs (Z : State) (x : Addr) (h0 : Heap) (n0 : Nat) (vV : Option Value) (h : Heap) (LL : List Loc) : Prop := vV = some (.int (1 : Int32)) ∧ LL = [] ∧ h = h0
set_option maxRecDepth 65536 in
set_option maxHeartbeats 40000000 in
theorem rm_seqs (l : Launch) (Z : State) (a0 : Array Value) (hw : ∀ d ∈ tables_1, d.before a0 Z = true) (ws : List Jvm.Cond) (x : Addr) (h0 : Heap) (n0 : Nat) (O0 : Old Z n0 h0) :
    MetFree l (⟨"java/lang/String", "equals", "(Ljava/lang/Object;)Z"⟩ : MethodName) (head1 (Jvm.Cond.code (⟨"java/lang/String", "equals", "(Ljava/lang/Object;)Z"⟩ : MethodName) jdk_42_method_66_code 3 (some .boolean) :: ws) ({ frames := 0, cells := 0, slots := 0, locals := 0 } : Room)) (fun aa_ U => aa_ = #[(.ref x), (.ref x)] ∧ Z.Warmed39 U.vm ∧ U.heap = h0) (fun _ _ _ _ _ => True) (fun _ U o U' => ∃ vV LL, o = .returned vV ∧ Q_seqs Z x h0 n0 vV U'.heap LL ∧ FrameEnd U o U' LL ({ frames := 0, cells := 0, slots := 0, locals := 0 } : Room).cells ({ frames := 0, cells := 0, slots := 0, locals := 0 } : Room).slots) := by
  refine MetFree.of_bodySF (plainFor_of_name pn_0) hisR ?_
  intro pP eE sS mM args below meth cC s₁ Bd hml0 hP hK
  obtain ⟨rfl, hZ, hh⟩ := hP
  have hx := Bd.exec
  have hby := Bd.bytes
  have hml : cC.maxLocals = 3 := hml0
  have hown : sS.vm.findClass "java/lang/String" = some mM.cls := findClass_of_methodNamed Bd.named
  have hnm := (name_of_methodNamed Bd.named Bd.method).1
  have X0 : Stand pP l eE ({ frames := 0, cells := 0, slots := 0, locals := 0 } : Room) sS mM #[(.ref x), (.ref x)] below meth cC s₁ [] 0 0 := Stand.of_body Bd
  have e0 : s₁.heap = h0 := by rw [← hh, Bd.state]; rfl
  have N0 := Fr.nil n0
  have pre0 : ∀ tg, Steps pP.tables eE below (s₁.setTop (mkF mM 0 #[.val (.ref x), .val (.ref x), .unset] [])) tg → Steps pP.tables eE below (s₁.setTop (entryFrame mM #[(.ref x), (.ref x)] 3)) tg := fun tg kg => castTop (ef_seqs mM x x) kg
  obtain ⟨fs, hr, hrun, hended, hW, hsame⟩ := X0.leave (v := some (.int (1 : Int32))) (fun h => by rw [Bd.returns] at h; cases h)
  refine ⟨_, _, pre0 _ ?_, hrun, hended, _, _, rfl, ?_, ⟨_, rfl⟩, hW, hsame.mono (by decide) (by decide)⟩
  · refine XS.aloadN X0.here hx rfl (hb hby d_jdk_42_method_66_0) rfl rfl ?_
    show Steps pP.tables eE below (s₁.setTop (mkF mM 1 #[.val (.ref x), .val (.ref x), .unset] [(.ref x)])) _
    refine XS.aloadN X0.here hx rfl (hb hby d_jdk_42_method_66_1) rfl rfl ?_
    show Steps pP.tables eE below (s₁.setTop (mkF mM 2 #[.val (.ref x), .val (.ref x), .unset] [(.ref x), (.ref x)])) _
    refine Jvm.RoadKit.acmp (g := (mkF mM 2 #[.val (.ref x), .val (.ref x), .unset] [(.ref x), (.ref x)])) X0 hx rfl rfl rfl (pc0 := 2) (pc' := 5) (same := true) rfl (hb hby d_jdk_42_method_66_2) rfl (decide_eq_true rfl) (by decide) (by decide) ?_
    show Steps pP.tables eE below (s₁.setTop (mkF mM 5 #[.val (.ref x), .val (.ref x), .unset] [])) _
    refine XS.iconst X0.here hx rfl (hb hby d_jdk_42_method_66_5) ?_
    show Steps pP.tables eE below (s₁.setTop (mkF mM 6 #[.val (.ref x), .val (.ref x), .unset] [(.int (1 : Int32))])) _
    exact retN X0 hx (t := .boolean) Bd.returns (by simp) (hb hby d_jdk_42_method_66_6) hr
  · show Q_seqs Z x h0 n0 _ s₁.heap _
    rw [e0]
    exact ⟨rfl, rfl, rfl⟩
theorem ef_rini (m : MethodId) (x0 : Addr) (x1 : Addr) (x2 : Int32) (x3 : Int32) : entryFrame m #[(.ref x0), (.ref x1), (.int x2), (.int x3)] 4 = mkF m 0 #[.val (.ref x0), .val (.ref x1), .val (.int x2), .val (.int x3)] [] := by first | (simp [entryFrame, mkF, argsToLocals, Value.category]; done) | rfl
def Q_rini (Z : State) (a : Addr) (x : Addr) (i : Int32) (z : Int32) (u1 : Value) (u2 : Value) (u3 : Value) (u4 : Value) (h0 : Heap) (n0 : Nat) (vV : Option Value) (h : Heap) (LL : List Loc) : Prop := vV = none ∧ Fr n0 LL ∧ Keep h0 h [a] ∧ Exa Z h a "com/example/subsumer/subsumer/Role" ∧ Fld Z h a "com/example/subsumer/subsumer/Role" "iri" "Ljava/lang/String;" (.ref x) ∧ Fld Z h a "com/example/subsumer/subsumer/Role" "id" "I" (.int i) ∧ Fld Z h a "com/example/subsumer/subsumer/Role" "inverse" "Z" (.int z) ∧ Fld Z h a "com/example/subsumer/subsumer/Role" "opposite" "Lcom/example/subsumer/subsumer/Role;" u4
set_option maxRecDepth 65536 in
set_option maxHeartbeats 40000000 in
theorem rm_rini (l : Launch) (Z : State) (a0 : Array Value) (hw : ∀ d ∈ tables_1, d.before a0 Z = true) (ws : List Jvm.Cond) (a : Addr) (x : Addr) (i : Int32) (z : Int32) (u1 : Value) (u2 : Value) (u3 : Value) (u4 : Value) (h0 : Heap) (n0 : Nat) (O0 : Old Z n0 h0) (E_a : Exa Z h0 a "com/example/subsumer/subsumer/Role") (F_a_iri : Fld Z h0 a "com/example/subsumer/subsumer/Role" "iri" "Ljava/lang/String;" u1) (F_a_id : Fld Z h0 a "com/example/subsumer/subsumer/Role" "id" "I" u2) (F_a_inverse : Fld Z h0 a "com/example/subsumer/subsumer/Role" "inverse" "Z" u3) (g_a : n0 ≤ a) (hp5 : (nar .boolean z = z)) (F_a_opposite : Fld Z h0 a "com/example/subsumer/subsumer/Role" "opposite" "Lcom/example/subsumer/subsumer/Role;" u4) :
    MetFree l (⟨"com/example/subsumer/subsumer/Role", "<init>", "(Ljava/lang/String;IZ)V"⟩ : MethodName) (head1 (Jvm.Cond.code (⟨"com/example/subsumer/subsumer/Role", "<init>", "(Ljava/lang/String;IZ)V"⟩ : MethodName) prog_21_method_1_code 4 none :: ws) ({ frames := 1, cells := 0, slots := 0, locals := 12 } : Room)) (fun aa_ U => aa_ = #[(.ref a), (.ref x), (.int i), (.int z)] ∧ Z.Warmed39 U.vm ∧ U.heap = h0) (fun _ _ _ _ _ => True) (fun _ U o U' => ∃ vV LL, o = .returned vV ∧ Q_rini Z a x i z u1 u2 u3 u4 h0 n0 vV U'.heap LL ∧ FrameEnd U o U' LL ({ frames := 1, cells := 0, slots := 0, locals := 12 } : Room).cells ({ frames := 1, cells := 0, slots := 0, locals := 12 } : Room).slots) := by
  refine MetFree.of_bodySF (plainFor_of_name pn_2) hisR ?_
  intro pP eE sS mM args below meth cC s₁ Bd hml0 hP hK
  obtain ⟨rfl, hZ, hh⟩ := hP
  have hx := Bd.exec
  have hby := Bd.bytes
  have hml : cC.maxLocals = 4 := hml0
  have hown : sS.vm.findClass "com/example/subsumer/subsumer/Role" = some mM.cls := findClass_of_methodNamed Bd.named
  have hnm := (name_of_methodNamed Bd.named Bd.method).1
  have X0 : Stand pP l eE ({ frames := 1, cells := 0, slots := 0, locals := 12 } : Room) sS mM #[(.ref a), (.ref x), (.int i), (.int z)] below meth cC s₁ [] 0 0 := Stand.of_body Bd
  have e0 : s₁.heap = h0 := by rw [← hh, Bd.state]; rfl
  have N0 := Fr.nil n0
  have pre0 : ∀ tg, Steps pP.tables eE below (s₁.setTop (mkF mM 0 #[.val (.ref a), .val (.ref x), .val (.int i), .val (.int z)] [])) tg → Steps pP.tables eE below (s₁.setTop (entryFrame mM #[(.ref a), (.ref x), (.int i), (.int z)] 4)) tg := fun tg kg => castTop (ef_rini mM a x i z) kg
  have K0 : Keep h0 h0 [a] := Keep.refl _ _
  obtain ⟨T1, X1, e1, st1⟩ := initO X0 hx hZ hown (w_39 hw) (w_12 hw) (w_13 hw) e0 (g := (mkF mM 1 #[.val (.ref a), .val (.ref x), .val (.int i), .val (.int z)] [(.ref a)])) rfl (by rw [hml]; rfl) rfl (hb hby d_prog_21_method_1_1) (by decide) (W := 0) (by show 2 * 0 + _ ≤ _; exact Nat.le_of_eq rfl) (by decide)
  obtain ⟨T2, h2, X2, e2, W2, st2⟩ := putF X1 hx hZ hown (host := "") (Or.inl (w_40 hw)) Via.refl e1 F_a_iri E_a (Or.inr ⟨(w_41 hw), rfl, hnm⟩) (w_35 hw) (ty := (.object "java/lang/String")) (by decide) rfl rfl (g := (mkF mM 6 #[.val (.ref a), .val (.ref x), .val (.int i), .val (.int z)] [(.ref x), (.ref a)])) rfl rfl (hb hby d_prog_21_method_1_6)
  have K3 : Keep h0 h2 [a] := K0.wr W2 (Or.inl (List.mem_of_getElem? (i := 0) rfl))
  have Fw2 : Fld Z h2 a "com/example/subsumer/subsumer/Role" "iri" "Ljava/lang/String;" (.ref x) := F_a_iri.same W2
  have N2 := Fr.snoc X2 N0 g_a
  have f4 := (F_a_id.other W2 (Or.inr (slot_ne (Or.inr (w_43 hw)) (Or.inr (w_41 hw)) (by decide) (t := .int) (t' := (.object "java/lang/String")) (by decide) (by decide))))
  have f5 := (E_a.wr W2)
  obtain ⟨T6, h6, X6, e6, W6, st6⟩ := putF X2 hx hZ hown (host := "") (Or.inl (w_42 hw)) Via.refl e2 f4 f5 (Or.inr ⟨(w_43 hw), rfl, hnm⟩) (w_35 hw) (ty := .int) (by decide) rfl rfl (g := (mkF mM 11 #[.val (.ref a), .val (.ref x), .val (.int i), .val (.int z)] [(.int i), (.ref a)])) rfl rfl (hb hby d_prog_21_method_1_11)
  have K7 : Keep h0 h6 [a] := K3.wr W6 (Or.inl (List.mem_of_getElem? (i := 0) rfl))
  have Fw6 : Fld Z h6 a "com/example/subsumer/subsumer/Role" "id" "I" (.int i) := f4.same W6
  have N6 := Fr.snoc X6 N2 g_a
  have f8 := ((F_a_inverse.other W2 (Or.inr (slot_ne (Or.inr (w_45 hw)) (Or.inr (w_41 hw)) (by decide) (t := .boolean) (t' := (.object "java/lang/String")) (by decide) (by decide)))).other W6 (Or.inr (slot_ne (Or.inr (w_45 hw)) (Or.inr (w_43 hw)) (by decide) (t := .boolean) (t' := .int) (by decide) (by decide))))
  have f9 := (f5.wr W6)
  obtain ⟨T10, h10, X10, e10, W10, st10⟩ := putFN X6 hx hZ hown (w_44 hw) Via.refl e6 f8 f9 (Or.inr ⟨(w_45 hw), rfl, hnm⟩) (w_35 hw) (ty := .boolean) (v' := (.int (nar .boolean z))) (by decide) rfl (fits_nar_bool _) (g := (mkF mM 16 #[.val (.ref a), .val (.ref x), .val (.int i), .val (.int z)] [(.int z), (.ref a)])) rfl rfl (hb hby d_prog_21_method_1_16)
  have K11 : Keep h0 h10 [a] := K7.wr W10 (Or.inl (List.mem_of_getElem? (i := 0) rfl))
  have Fw10 : Fld Z h10 a "com/example/subsumer/subsumer/Role" "inverse" "Z" (.int (nar .boolean z)) := f8.same W10
  have N10 := Fr.snoc X10 N6 g_a
  have f13 := (f9.wr W10)
  have f14 := ((Fw2.other W6 (Or.inr (slot_ne (Or.inr (w_41 hw)) (Or.inr (w_43 hw)) (by decide) (t := (.object "java/lang/String")) (t' := .int) (by decide) (by decide)))).other W10 (Or.inr (slot_ne (Or.inr (w_41 hw)) (Or.inr (w_45 hw)) (by decide) (t := (.object "java/lang/String")) (t' := .boolean) (by decide) (by decide))))
  have f15 := (Fw6.other W10 (Or.inr (slot_ne (Or.inr (w_43 hw)) (Or.inr (w_45 hw)) (by decide) (t := .int) (t' := .boolean) (by decide) (by decide))))
  have f16 := (((F_a_opposite.other W2 (Or.inr (slot_ne (Or.inl (w_47 hw)) (Or.inr (w_41 hw)) (by decide) (t := (.object "com/example/subsumer/subsumer/Role")) (t' := (.object "java/lang/String")) (by decide) (by decide)))).other W6 (Or.inr (slot_ne (Or.inl (w_47 hw)) (Or.inr (w_43 hw)) (by decide) (t := (.object "com/example/subsumer/subsumer/Role")) (t' := .int) (by decide) (by decide)))).other W10 (Or.inr (slot_ne (Or.inl (w_47 hw)) (Or.inr (w_45 hw)) (by decide) (t := (.object "com/example/subsumer/subsumer/Role")) (t' := .boolean) (by decide) (by decide))))
  obtain ⟨fs, hr, hrun, hended, hW, hsame⟩ := X10.leave (v := none) (fun _ => rfl)
  refine ⟨_, _, pre0 _ ?_, hrun, hended, _, _, rfl, ?_, ⟨_, rfl⟩, hW, hsame.mono (by decide) (by decide)⟩
  · refine XS.aloadN X0.here hx rfl (hb hby d_prog_21_method_1_0) rfl rfl ?_
    show Steps pP.tables eE below (s₁.setTop (mkF mM 1 #[.val (.ref a), .val (.ref x), .val (.int i), .val (.int z)] [(.ref a)])) _
    refine st1 _ ?_
    show Steps pP.tables eE below (T1.setTop (mkF mM 4 #[.val (.ref a), .val (.ref x), .val (.int i), .val (.int z)] [])) _
    refine XS.aloadN X1.here hx rfl (hb hby d_prog_21_method_1_4) rfl rfl ?_
    show Steps pP.tables eE below (T1.setTop (mkF mM 5 #[.val (.ref a), .val (.ref x), .val (.int i), .val (.int z)] [(.ref a)])) _
    refine XS.aloadN X1.here hx rfl (hb hby d_prog_21_method_1_5) rfl rfl ?_
    show Steps pP.tables eE below (T1.setTop (mkF mM 6 #[.val (.ref a), .val (.ref x), .val (.int i), .val (.int z)] [(.ref x), (.ref a)])) _
    refine st2 _ ?_
    show Steps pP.tables eE below (T2.setTop (mkF mM 9 #[.val (.ref a), .val (.ref x), .val (.int i), .val (.int z)] [])) _
    refine XS.aloadN X2.here hx rfl (hb hby d_prog_21_method_1_9) rfl rfl ?_
    show Steps pP.tables eE below (T2.setTop (mkF mM 10 #[.val (.ref a), .val (.ref x), .val (.int i), .val (.int z)] [(.ref a)])) _
    refine XS.iloadN X2.here hx rfl (hb hby d_prog_21_method_1_10) rfl ?_
    show Steps pP.tables eE below (T2.setTop (mkF mM 11 #[.val (.ref a), .val (.ref x), .val (.int i), .val (.int z)] [(.int i), (.ref a)])) _
    refine st6 _ ?_
    show Steps pP.tables eE below (T6.setTop (mkF mM 14 #[.val (.ref a), .val (.ref x), .val (.int i), .val (.int z)] [])) _
    refine XS.aloadN X6.here hx rfl (hb hby d_prog_21_method_1_14) rfl rfl ?_
    show Steps pP.tables eE below (T6.setTop (mkF mM 15 #[.val (.ref a), .val (.ref x), .val (.int i), .val (.int z)] [(.ref a)])) _
    refine XS.iloadN X6.here hx rfl (hb hby d_prog_21_method_1_15) rfl ?_
    show Steps pP.tables eE below (T6.setTop (mkF mM 16 #[.val (.ref a), .val (.ref x), .val (.int i), .val (.int z)] [(.int z), (.ref a)])) _
    refine st10 _ ?_
    show Steps pP.tables eE below (T10.setTop (mkF mM 19 #[.val (.ref a), .val (.ref x), .val (.int i), .val (.int z)] [])) _
    exact X10.returnOut hx Bd.returns (hb hby d_prog_21_method_1_19) hr
  · show Q_rini Z a x i z u1 u2 u3 u4 h0 n0 _ T10.heap _
    rw [e10]
    exact ⟨rfl, N10, K11, f13, f14, f15, (hp5 ▸ Fw10), f16⟩
theorem ef_prop (m : MethodId) (x0 : Addr) (x1 : Int32) : entryFrame m #[(.ref x0), (.int x1)] 4 = mkF m 0 #[.val (.ref x0), .val (.int x1), .unset, .unset] [] := by first | (simp [entryFrame, mkF, argsToLocals, Value.category]; done) | rfl
def Q_prop (Z : State) (x : Addr) (i : Int32) (h0 : Heap) (n0 : Nat) (vV : Option Value) (h : Heap) (LL : List Loc) : Prop := ∃ (a : Addr) (b : Addr), vV = some (.ref a) ∧ Fr n0 LL ∧ Keep h0 h [] ∧ h0.size ≤ a ∧ h0.size ≤ b ∧ a ≠ b ∧ Exa Z h a "com/example/subsumer/subsumer/Role" ∧ Exa Z h b "com/example/subsumer/subsumer/Role" ∧ Fld Z h a "com/example/subsumer/subsumer/Role" "iri" "Ljava/lang/String;" (.ref x) ∧ Fld Z h b "com/example/subsumer/subsumer/Role" "iri" "Ljava/lang/String;" (.ref x) ∧ Fld Z h a "com/example/subsumer/subsumer/Role" "id" "I" (.int ((2 : Int32) * i)) ∧ Fld Z h b "com/example/subsumer/subsumer/Role" "id" "I" (.int (((2 : Int32) * i) + (1 : Int32))) ∧ Fld Z h a "com/example/subsumer/subsumer/Role" "inverse" "Z" (.int (0 : Int32)) ∧ Fld Z h b "com/example/subsumer/subsumer/Role" "inverse" "Z" (.int (1 : Int32)) ∧ Fld Z h a "com/example/subsumer/subsumer/Role" "opposite" "Lcom/example/subsumer/subsumer/Role;" (.ref b) ∧ Fld Z h b "com/example/subsumer/subsumer/Role" "opposite" "Lcom/example/subsumer/subsumer/Role;" (.ref a)
set_option maxRecDepth 65536 in
set_option maxHeartbeats 40000000 in
theorem rm_prop (l : Launch) (Z : State) (a0 : Array Value) (hw : ∀ d ∈ tables_1, d.before a0 Z = true) (ws : List Jvm.Cond) (x : Addr) (i : Int32) (h0 : Heap) (n0 : Nat) (O0 : Old Z n0 h0) :
    MetFree l (⟨"com/example/subsumer/subsumer/Role", "property", "(Ljava/lang/String;I)Lcom/example/subsumer/subsumer/Role;"⟩ : MethodName) (head1 (Jvm.Cond.code (⟨"com/example/subsumer/subsumer/Role", "property", "(Ljava/lang/String;I)Lcom/example/subsumer/subsumer/Role;"⟩ : MethodName) prog_21_method_2_code 4 (some (.object "com/example/subsumer/subsumer/Role")) :: ws) ({ frames := 2, cells := 2, slots := 8, locals := 28 } : Room)) (fun aa_ U => aa_ = #[(.ref x), (.int i)] ∧ Z.Warmed39 U.vm ∧ U.heap = h0) (fun _ _ _ _ _ => True) (fun _ U o U' => ∃ vV LL, o = .returned vV ∧ Q_prop Z x i h0 n0 vV U'.heap LL ∧ FrameEnd U o U' LL ({ frames := 2, cells := 2, slots := 8, locals := 28 } : Room).cells ({ frames := 2, cells := 2, slots := 8, locals := 28 } : Room).slots) := by
  refine MetFree.of_bodySF (plainFor_of_name pn_2) hisR ?_
  intro pP eE sS mM args below meth cC s₁ Bd hml0 hP hK
  obtain ⟨rfl, hZ, hh⟩ := hP
  have hx := Bd.exec
  have hby := Bd.bytes
  have hml : cC.maxLocals = 4 := hml0
  have hown : sS.vm.findClass "com/example/subsumer/subsumer/Role" = some mM.cls := findClass_of_methodNamed Bd.named
  have hnm := (name_of_methodNamed Bd.named Bd.method).1
  have X0 : Stand pP l eE ({ frames := 2, cells := 2, slots := 8, locals := 28 } : Room) sS mM #[(.ref x), (.int i)] below meth cC s₁ [] 0 0 := Stand.of_body Bd
  have e0 : s₁.heap = h0 := by rw [← hh, Bd.state]; rfl
  have N0 := Fr.nil n0
  have pre0 : ∀ tg, Steps pP.tables eE below (s₁.setTop (mkF mM 0 #[.val (.ref x), .val (.int i), .unset, .unset] [])) tg → Steps pP.tables eE below (s₁.setTop (entryFrame mM #[(.ref x), (.int i)] 4)) tg := fun tg kg => castTop (ef_prop mM x i) kg
  have K0 : Keep h0 h0 [] := Keep.refl _ _
  obtain ⟨T1, h1, X1, e1, E1, A1, D1, -, st1⟩ := newO X0 hx hZ hown (w_34 hw) (w_35 hw) (w_32 hw) e0 (g := (mkF mM 0 #[.val (.ref x), .val (.int i), .unset, .unset] [])) rfl (hb hby d_prog_21_method_2_0) (by decide) (by decide)
  obtain ⟨b1, g1⟩ : ∃ z, z = h0.size := ⟨_, rfl⟩
  rw [← g1] at A1 D1 st1
  have g_b1 : n0 ≤ b1 := Nat.le_trans (own_osz O0) (Nat.le_of_eq g1.symm)
  have sz_b1 : h0.size ≤ b1 := Nat.le_trans K0.1 (Nat.le_of_eq g1.symm)
  have K2 : Keep h0 h1 [] := K0.ext E1
  have F_b1_iri : Fld Z h1 b1 "com/example/subsumer/subsumer/Role" "iri" "Ljava/lang/String;" .null := D1 (Or.inr (w_41 hw)) (ty := (.object "java/lang/String")) (by decide)
  have F_b1_id : Fld Z h1 b1 "com/example/subsumer/subsumer/Role" "id" "I" (.int (0 : Int32)) := D1 (Or.inr (w_43 hw)) (ty := .int) (by decide)
  have F_b1_inverse : Fld Z h1 b1 "com/example/subsumer/subsumer/Role" "inverse" "Z" (.int (0 : Int32)) := D1 (Or.inr (w_45 hw)) (ty := .boolean) (by decide)
  have F_b1_opposite : Fld Z h1 b1 "com/example/subsumer/subsumer/Role" "opposite" "Lcom/example/subsumer/subsumer/Role;" .null := D1 (Or.inl (w_47 hw)) (ty := (.object "com/example/subsumer/subsumer/Role")) (by decide)
  have f3 := (O0.ext E1)
  obtain ⟨_, _, ⟨T4, L4, k4, n4⟩, -, X4, ⟨Lc4, hQ4, l4, y4, z4⟩, st4⟩ := X1.specialBack hx (y := (⟨"com/example/subsumer/subsumer/Role", "<init>", "(Ljava/lang/String;IZ)V"⟩ : MethodName)) rfl hown (mvT hZ (w_36 hw)) (mvT hZ (w_37 hw)) (mvT hZ (w_38 hw)) (by decide) (backOf (W := 1) (rm_rini l Z a0 hw [] b1 x ((2 : Int32) * i) (0 : Int32) .null (.int (0 : Int32)) (.int (0 : Int32)) .null h1 n0 f3 A1 F_b1_iri F_b1_id F_b1_inverse g_b1 (rfl : nar .boolean (0 : Int32) = (0 : Int32)) F_b1_opposite) hZ (w_38 hw) (w_32 hw) (by decide) (by decide)) (g := (mkF mM 9 #[.val (.ref x), .val (.int i), .unset, .unset] [(.int (0 : Int32)), (.int ((2 : Int32) * i)), (.ref x), (.ref b1), (.ref b1)])) rfl (by rw [hml]; rfl) (Steps.refl _) (a := b1) (argsL := [(.ref x), (.int ((2 : Int32) * i)), (.int (0 : Int32))]) (rest := [(.ref b1)]) (lenOf pd_4 rfl) rfl (by show 2 * 0 + _ ≤ _; exact Nat.le_of_eq rfl) (hb hby d_prog_21_method_2_9) (fun _ _ => ⟨rfl, e1, (by decide : 1 + 0 ≤ _), (by decide : 4 + 0 ≤ _)⟩)
  dsimp only [Pt.U, Pt.locs, Pt.cells, Pt.slots] at X4 l4 y4 z4 st4 hQ4
  subst l4 y4 z4
  obtain ⟨rfl, Nq4, Kq4, q4_0, q4_1, q4_2, q4_3, q4_4⟩ := hQ4
  have N4 := Fr.app N0 Nq4
  have K5 : Keep h0 T4.heap [] := K2.trans Kq4 (allS (Or.inr sz_b1) all0)
  obtain ⟨T6, h6, X6, e6, E6, A6, D6, -, st6⟩ := newO X4 hx hZ hown (w_34 hw) (w_35 hw) (w_32 hw) rfl (g := (mkF mM 13 #[.val (.ref x), .val (.int i), .val (.ref b1), .unset] [])) rfl (hb hby d_prog_21_method_2_13) (by decide) (by decide)
  obtain ⟨b6, g6⟩ : ∃ z, z = T4.heap.size := ⟨_, rfl⟩
  rw [← g6] at A6 D6 st6
  have f7 := (f3.keep Kq4 (allS g_b1 all0))
  have g_b6 : n0 ≤ b6 := Nat.le_trans (own_osz f7) (Nat.le_of_eq g6.symm)
  have sz_b6 : h0.size ≤ b6 := Nat.le_trans K5.1 (Nat.le_of_eq g6.symm)
  have K8 : Keep h0 h6 [] := K5.ext E6
  have F_b6_iri : Fld Z h6 b6 "com/example/subsumer/subsumer/Role" "iri" "Ljava/lang/String;" .null := D6 (Or.inr (w_41 hw)) (ty := (.object "java/lang/String")) (by decide)
  have F_b6_id : Fld Z h6 b6 "com/example/subsumer/subsumer/Role" "id" "I" (.int (0 : Int32)) := D6 (Or.inr (w_43 hw)) (ty := .int) (by decide)
  have F_b6_inverse : Fld Z h6 b6 "com/example/subsumer/subsumer/Role" "inverse" "Z" (.int (0 : Int32)) := D6 (Or.inr (w_45 hw)) (ty := .boolean) (by decide)
  have F_b6_opposite : Fld Z h6 b6 "com/example/subsumer/subsumer/Role" "opposite" "Lcom/example/subsumer/subsumer/Role;" .null := D6 (Or.inl (w_47 hw)) (ty := (.object "com/example/subsumer/subsumer/Role")) (by decide)
  have f9 := (f7.ext E6)
  obtain ⟨_, _, ⟨T10, L10, k10, n10⟩, -, X10, ⟨Lc10, hQ10, l10, y10, z10⟩, st10⟩ := X6.specialBack hx (y := (⟨"com/example/subsumer/subsumer/Role", "<init>", "(Ljava/lang/String;IZ)V"⟩ : MethodName)) rfl hown (mvT hZ (w_36 hw)) (mvT hZ (w_37 hw)) (mvT hZ (w_38 hw)) (by decide) (backOf (W := 1) (rm_rini l Z a0 hw [] b6 x (((2 : Int32) * i) + (1 : Int32)) (1 : Int32) .null (.int (0 : Int32)) (.int (0 : Int32)) .null h6 n0 f9 A6 F_b6_iri F_b6_id F_b6_inverse g_b6 (rfl : nar .boolean (1 : Int32) = (1 : Int32)) F_b6_opposite) hZ (w_38 hw) (w_32 hw) (by decide) (by decide)) (g := (mkF mM 24 #[.val (.ref x), .val (.int i), .val (.ref b1), .unset] [(.int (1 : Int32)), (.int (((2 : Int32) * i) + (1 : Int32))), (.ref x), (.ref b6), (.ref b6)])) rfl (by rw [hml]; rfl) (Steps.refl _) (a := b6) (argsL := [(.ref x), (.int (((2 : Int32) * i) + (1 : Int32))), (.int (1 : Int32))]) (rest := [(.ref b6)]) (lenOf pd_4 rfl) rfl (by show 2 * 0 + _ ≤ _; exact Nat.le_of_eq rfl) (hb hby d_prog_21_method_2_24) (fun _ _ => ⟨rfl, e6, (by decide : 2 + 0 ≤ _), (by decide : 8 + 0 ≤ _)⟩)
  dsimp only [Pt.U, Pt.locs, Pt.cells, Pt.slots] at X10 l10 y10 z10 st10 hQ10
  subst l10 y10 z10
  obtain ⟨rfl, Nq10, Kq10, q10_0, q10_1, q10_2, q10_3, q10_4⟩ := hQ10
  have N10 := Fr.app N4 Nq10
  have K11 : Keep h0 T10.heap [] := K8.trans Kq10 (allS (Or.inr sz_b6) all0)
  have f12 := ((q4_4.ext E6).keep Kq10 (ninS (Nat.ne_of_lt (Nat.lt_of_lt_of_le (q4_0).lt (Nat.le_of_eq g6.symm))) nin0))
  have f13 := ((q4_0.ext E6).keep Kq10)
  obtain ⟨T14, h14, X14, e14, W14, st14⟩ := putF X10 hx hZ hown (host := "") (Or.inl (w_46 hw)) Via.refl rfl f12 f13 (Or.inl (w_47 hw)) (w_35 hw) (ty := (.object "com/example/subsumer/subsumer/Role")) (by decide) rfl rfl (g := (mkF mM 30 #[.val (.ref x), .val (.int i), .val (.ref b1), .val (.ref b6)] [(.ref b6), (.ref b1)])) rfl rfl (hb hby d_prog_21_method_2_30)
  have K15 : Keep h0 h14 [] := K11.wr W14 (Or.inr sz_b1)
  have Fw14 : Fld Z h14 b1 "com/example/subsumer/subsumer/Role" "opposite" "Lcom/example/subsumer/subsumer/Role;" (.ref b6) := f12.same W14
  have N14 := Fr.snoc X14 N10 g_b1
  have f16 := (q10_4.other W14 (Or.inl (Ne.symm (Nat.ne_of_lt (Nat.lt_of_lt_of_le (q4_0).lt (Nat.le_of_eq g6.symm))))))
  have f17 := (q10_0.wr W14)
  obtain ⟨T18, h18, X18, e18, W18, st18⟩ := putF X14 hx hZ hown (host := "") (Or.inl (w_46 hw)) Via.refl e14 f16 f17 (Or.inl (w_47 hw)) (w_35 hw) (ty := (.object "com/example/subsumer/subsumer/Role")) (by decide) rfl rfl (g := (mkF mM 35 #[.val (.ref x), .val (.int i), .val (.ref b1), .val (.ref b6)] [(.ref b1), (.ref b6)])) rfl rfl (hb hby d_prog_21_method_2_35)
  have K19 : Keep h0 h18 [] := K15.wr W18 (Or.inr sz_b6)
  have Fw18 : Fld Z h18 b6 "com/example/subsumer/subsumer/Role" "opposite" "Lcom/example/subsumer/subsumer/Role;" (.ref b1) := f16.same W18
  have N18 := Fr.snoc X18 N14 g_b6
  have f21 := ((f13.wr W14).wr W18)
  have f22 := (f17.wr W18)
  have f23 := ((((q4_1.ext E6).keep Kq10 (ninS (Nat.ne_of_lt (Nat.lt_of_lt_of_le (q4_0).lt (Nat.le_of_eq g6.symm))) nin0)).other W14 (Or.inr (slot_ne (Or.inr (w_41 hw)) (Or.inl (w_47 hw)) (by decide) (t := (.object "java/lang/String")) (t' := (.object "com/example/subsumer/subsumer/Role")) (by decide) (by decide)))).other W18 (Or.inl (Nat.ne_of_lt (Nat.lt_of_lt_of_le (q4_0).lt (Nat.le_of_eq g6.symm)))))
  have f24 := ((q10_1.other W14 (Or.inl (Ne.symm (Nat.ne_of_lt (Nat.lt_of_lt_of_le (q4_0).lt (Nat.le_of_eq g6.symm)))))).other W18 (Or.inr (slot_ne (Or.inr (w_41 hw)) (Or.inl (w_47 hw)) (by decide) (t := (.object "java/lang/String")) (t' := (.object "com/example/subsumer/subsumer/Role")) (by decide) (by decide))))
  have f25 := ((((q4_2.ext E6).keep Kq10 (ninS (Nat.ne_of_lt (Nat.lt_of_lt_of_le (q4_0).lt (Nat.le_of_eq g6.symm))) nin0)).other W14 (Or.inr (slot_ne (Or.inr (w_43 hw)) (Or.inl (w_47 hw)) (by decide) (t := .int) (t' := (.object "com/example/subsumer/subsumer/Role")) (by decide) (by decide)))).other W18 (Or.inl (Nat.ne_of_lt (Nat.lt_of_lt_of_le (q4_0).lt (Nat.le_of_eq g6.symm)))))
  have f26 := ((q10_2.other W14 (Or.inl (Ne.symm (Nat.ne_of_lt (Nat.lt_of_lt_of_le (q4_0).lt (Nat.le_of_eq g6.symm)))))).other W18 (Or.inr (slot_ne (Or.inr (w_43 hw)) (Or.inl (w_47 hw)) (by decide) (t := .int) (t' := (.object "com/example/subsumer/subsumer/Role")) (by decide) (by decide))))
  have f27 := ((((q4_3.ext E6).keep Kq10 (ninS (Nat.ne_of_lt (Nat.lt_of_lt_of_le (q4_0).lt (Nat.le_of_eq g6.symm))) nin0)).other W14 (Or.inr (slot_ne (Or.inr (w_45 hw)) (Or.inl (w_47 hw)) (by decide) (t := .boolean) (t' := (.object "com/example/subsumer/subsumer/Role")) (by decide) (by decide)))).other W18 (Or.inl (Nat.ne_of_lt (Nat.lt_of_lt_of_le (q4_0).lt (Nat.le_of_eq g6.symm)))))
  have f28 := ((q10_3.other W14 (Or.inl (Ne.symm (Nat.ne_of_lt (Nat.lt_of_lt_of_le (q4_0).lt (Nat.le_of_eq g6.symm)))))).other W18 (Or.inr (slot_ne (Or.inr (w_45 hw)) (Or.inl (w_47 hw)) (by decide) (t := .boolean) (t' := (.object "com/example/subsumer/subsumer/Role")) (by decide) (by decide))))
  have f29 := (Fw14.other W18 (Or.inl (Nat.ne_of_lt (Nat.lt_of_lt_of_le (q4_0).lt (Nat.le_of_eq g6.symm)))))
  obtain ⟨fs, hr, hrun, hended, hW, hsame⟩ := X18.leave (v := some (.ref b1)) (fun h => by rw [Bd.returns] at h; cases h)
  refine ⟨_, _, pre0 _ ?_, hrun, hended, _, _, rfl, ?_, ⟨_, rfl⟩, hW, hsame.mono (by decide) (by decide)⟩
  · refine st1 _ ?_
    show Steps pP.tables eE below (T1.setTop (mkF mM 3 #[.val (.ref x), .val (.int i), .unset, .unset] [(.ref b1)])) _
    refine XS.dup X1.here hx rfl (hb hby d_prog_21_method_2_3) rfl rfl ?_
    show Steps pP.tables eE below (T1.setTop (mkF mM 4 #[.val (.ref x), .val (.int i), .unset, .unset] [(.ref b1), (.ref b1)])) _
    refine XS.aloadN X1.here hx rfl (hb hby d_prog_21_method_2_4) rfl rfl ?_
    show Steps pP.tables eE below (T1.setTop (mkF mM 5 #[.val (.ref x), .val (.int i), .unset, .unset] [(.ref x), (.ref b1), (.ref b1)])) _
    refine XS.iconst X1.here hx rfl (hb hby d_prog_21_method_2_5) ?_
    show Steps pP.tables eE below (T1.setTop (mkF mM 6 #[.val (.ref x), .val (.int i), .unset, .unset] [(.int (2 : Int32)), (.ref x), (.ref b1), (.ref b1)])) _
    refine XS.iloadN X1.here hx rfl (hb hby d_prog_21_method_2_6) rfl ?_
    show Steps pP.tables eE below (T1.setTop (mkF mM 7 #[.val (.ref x), .val (.int i), .unset, .unset] [(.int i), (.int (2 : Int32)), (.ref x), (.ref b1), (.ref b1)])) _
    refine XS.imul X1.here hx rfl (hb hby d_prog_21_method_2_7) rfl ?_
    show Steps pP.tables eE below (T1.setTop (mkF mM 8 #[.val (.ref x), .val (.int i), .unset, .unset] [(.int ((2 : Int32) * i)), (.ref x), (.ref b1), (.ref b1)])) _
    refine XS.iconst X1.here hx rfl (hb hby d_prog_21_method_2_8) ?_
    show Steps pP.tables eE below (T1.setTop (mkF mM 9 #[.val (.ref x), .val (.int i), .unset, .unset] [(.int (0 : Int32)), (.int ((2 : Int32) * i)), (.ref x), (.ref b1), (.ref b1)])) _
    refine st4.trans ?_
    show Steps pP.tables eE below (T4.setTop (mkF mM 12 #[.val (.ref x), .val (.int i), .unset, .unset] [(.ref b1)])) _
    refine XS.astoreN X4.here hx rfl (hb hby d_prog_21_method_2_12) rfl rfl (l' := #[.val (.ref x), .val (.int i), .val (.ref b1), .unset]) rfl ?_
    show Steps pP.tables eE below (T4.setTop (mkF mM 13 #[.val (.ref x), .val (.int i), .val (.ref b1), .unset] [])) _
    refine st6 _ ?_
    show Steps pP.tables eE below (T6.setTop (mkF mM 16 #[.val (.ref x), .val (.int i), .val (.ref b1), .unset] [(.ref b6)])) _
    refine XS.dup X6.here hx rfl (hb hby d_prog_21_method_2_16) rfl rfl ?_
    show Steps pP.tables eE below (T6.setTop (mkF mM 17 #[.val (.ref x), .val (.int i), .val (.ref b1), .unset] [(.ref b6), (.ref b6)])) _
    refine XS.aloadN X6.here hx rfl (hb hby d_prog_21_method_2_17) rfl rfl ?_
    show Steps pP.tables eE below (T6.setTop (mkF mM 18 #[.val (.ref x), .val (.int i), .val (.ref b1), .unset] [(.ref x), (.ref b6), (.ref b6)])) _
    refine XS.iconst X6.here hx rfl (hb hby d_prog_21_method_2_18) ?_
    show Steps pP.tables eE below (T6.setTop (mkF mM 19 #[.val (.ref x), .val (.int i), .val (.ref b1), .unset] [(.int (2 : Int32)), (.ref x), (.ref b6), (.ref b6)])) _
    refine XS.iloadN X6.here hx rfl (hb hby d_prog_21_method_2_19) rfl ?_
    show Steps pP.tables eE below (T6.setTop (mkF mM 20 #[.val (.ref x), .val (.int i), .val (.ref b1), .unset] [(.int i), (.int (2 : Int32)), (.ref x), (.ref b6), (.ref b6)])) _
    refine XS.imul X6.here hx rfl (hb hby d_prog_21_method_2_20) rfl ?_
    show Steps pP.tables eE below (T6.setTop (mkF mM 21 #[.val (.ref x), .val (.int i), .val (.ref b1), .unset] [(.int ((2 : Int32) * i)), (.ref x), (.ref b6), (.ref b6)])) _
    refine XS.iconst X6.here hx rfl (hb hby d_prog_21_method_2_21) ?_
    show Steps pP.tables eE below (T6.setTop (mkF mM 22 #[.val (.ref x), .val (.int i), .val (.ref b1), .unset] [(.int (1 : Int32)), (.int ((2 : Int32) * i)), (.ref x), (.ref b6), (.ref b6)])) _
    refine XS.iadd X6.here hx rfl (hb hby d_prog_21_method_2_22) rfl ?_
    show Steps pP.tables eE below (T6.setTop (mkF mM 23 #[.val (.ref x), .val (.int i), .val (.ref b1), .unset] [(.int (((2 : Int32) * i) + (1 : Int32))), (.ref x), (.ref b6), (.ref b6)])) _
    refine XS.iconst X6.here hx rfl (hb hby d_prog_21_method_2_23) ?_
    show Steps pP.tables eE below (T6.setTop (mkF mM 24 #[.val (.ref x), .val (.int i), .val (.ref b1), .unset] [(.int (1 : Int32)), (.int (((2 : Int32) * i) + (1 : Int32))), (.ref x), (.ref b6), (.ref b6)])) _
    refine st10.trans ?_
    show Steps pP.tables eE below (T10.setTop (mkF mM 27 #[.val (.ref x), .val (.int i), .val (.ref b1), .unset] [(.ref b6)])) _
    refine XS.astoreN X10.here hx rfl (hb hby d_prog_21_method_2_27) rfl rfl (l' := #[.val (.ref x), .val (.int i), .val (.ref b1), .val (.ref b6)]) rfl ?_
    show Steps pP.tables eE below (T10.setTop (mkF mM 28 #[.val (.ref x), .val (.int i), .val (.ref b1), .val (.ref b6)] [])) _
    refine XS.aloadN X10.here hx rfl (hb hby d_prog_21_method_2_28) rfl rfl ?_
    show Steps pP.tables eE below (T10.setTop (mkF mM 29 #[.val (.ref x), .val (.int i), .val (.ref b1), .val (.ref b6)] [(.ref b1)])) _
    refine XS.aloadN X10.here hx rfl (hb hby d_prog_21_method_2_29) rfl rfl ?_
    show Steps pP.tables eE below (T10.setTop (mkF mM 30 #[.val (.ref x), .val (.int i), .val (.ref b1), .val (.ref b6)] [(.ref b6), (.ref b1)])) _
    refine st14 _ ?_
    show Steps pP.tables eE below (T14.setTop (mkF mM 33 #[.val (.ref x), .val (.int i), .val (.ref b1), .val (.ref b6)] [])) _
    refine XS.aloadN X14.here hx rfl (hb hby d_prog_21_method_2_33) rfl rfl ?_
    show Steps pP.tables eE below (T14.setTop (mkF mM 34 #[.val (.ref x), .val (.int i), .val (.ref b1), .val (.ref b6)] [(.ref b6)])) _
    refine XS.aloadN X14.here hx rfl (hb hby d_prog_21_method_2_34) rfl rfl ?_
    show Steps pP.tables eE below (T14.setTop (mkF mM 35 #[.val (.ref x), .val (.int i), .val (.ref b1), .val (.ref b6)] [(.ref b1), (.ref b6)])) _
    refine st18 _ ?_
    show Steps pP.tables eE below (T18.setTop (mkF mM 38 #[.val (.ref x), .val (.int i), .val (.ref b1), .val (.ref b6)] [])) _
    refine XS.aloadN X18.here hx rfl (hb hby d_prog_21_method_2_38) rfl rfl ?_
    show Steps pP.tables eE below (T18.setTop (mkF mM 39 #[.val (.ref x), .val (.int i), .val (.ref b1), .val (.ref b6)] [(.ref b1)])) _
    jvm_step X18.here [X18.here.top, hx, (hb hby d_prog_21_method_2_39), X18.method', Bd.returns, Value.isRef, FieldType.isReference]
    first | (intro acts; rw [hr _ acts rfl rfl rfl]) | rw [hr _ _ rfl rfl rfl]
    exact Steps.refl _
  · show Q_prop Z x i h0 n0 _ T18.heap _
    rw [e18]
    exact ⟨b1, b6, rfl, N18, K19, sz_b1, sz_b6, (Nat.ne_of_lt (Nat.lt_of_lt_of_le (q4_0).lt (Nat.le_of_eq g6.symm))), f21, f22, f23, f24, f25, f26, f27, f28, f29, Fw18⟩
theorem ef_inv (m : MethodId) (x0 : Addr) : entryFrame m #[(.ref x0)] 1 = mkF m 0 #[.val (.ref x0)] [] := by first | (simp [entryFrame, mkF, argsToLocals, Value.category]; done) | rfl
def Q_inv (Z : State) (a : Addr) (b : Addr) (h0 : Heap) (n0 : Nat) (vV : Option Value) (h : Heap) (LL : List Loc) : Prop := vV = some (.ref b) ∧ LL = [] ∧ h = h0
set_option maxRecDepth 65536 in
set_option maxHeartbeats 40000000 in
theorem rm_inv (l : Launch) (Z : State) (a0 : Array Value) (hw : ∀ d ∈ tables_1, d.before a0 Z = true) (ws : List Jvm.Cond) (a : Addr) (b : Addr) (h0 : Heap) (n0 : Nat) (O0 : Old Z n0 h0) (F_a_opposite : Fld Z h0 a "com/example/subsumer/subsumer/Role" "opposite" "Lcom/example/subsumer/subsumer/Role;" (.ref b)) :
    MetFree l (⟨"com/example/subsumer/subsumer/Role", "inverse", "()Lcom/example/subsumer/subsumer/Role;"⟩ : MethodName) (head1 (Jvm.Cond.code (⟨"com/example/subsumer/subsumer/Role", "inverse", "()Lcom/example/subsumer/subsumer/Role;"⟩ : MethodName) prog_21_method_5_code 1 (some (.object "com/example/subsumer/subsumer/Role")) :: ws) ({ frames := 0, cells := 0, slots := 0, locals := 0 } : Room)) (fun aa_ U => aa_ = #[(.ref a)] ∧ Z.Warmed39 U.vm ∧ U.heap = h0) (fun _ _ _ _ _ => True) (fun _ U o U' => ∃ vV LL, o = .returned vV ∧ Q_inv Z a b h0 n0 vV U'.heap LL ∧ FrameEnd U o U' LL ({ frames := 0, cells := 0, slots := 0, locals := 0 } : Room).cells ({ frames := 0, cells := 0, slots := 0, locals := 0 } : Room).slots) := by
  refine MetFree.of_bodySF (plainFor_of_name pn_2) hisR ?_
  intro pP eE sS mM args below meth cC s₁ Bd hml0 hP hK
  obtain ⟨rfl, hZ, hh⟩ := hP
  have hx := Bd.exec
  have hby := Bd.bytes
  have hml : cC.maxLocals = 1 := hml0
  have hown : sS.vm.findClass "com/example/subsumer/subsumer/Role" = some mM.cls := findClass_of_methodNamed Bd.named
  have hnm := (name_of_methodNamed Bd.named Bd.method).1
  have X0 : Stand pP l eE ({ frames := 0, cells := 0, slots := 0, locals := 0 } : Room) sS mM #[(.ref a)] below meth cC s₁ [] 0 0 := Stand.of_body Bd
  have e0 : s₁.heap = h0 := by rw [← hh, Bd.state]; rfl
  have N0 := Fr.nil n0
  have pre0 : ∀ tg, Steps pP.tables eE below (s₁.setTop (mkF mM 0 #[.val (.ref a)] [])) tg → Steps pP.tables eE below (s₁.setTop (entryFrame mM #[(.ref a)] 1)) tg := fun tg kg => castTop (ef_inv mM a) kg
  obtain ⟨T1, X1, e1, st1⟩ := getF X0 hx hZ hown (host := "") (Or.inl (w_46 hw)) Via.refl e0 F_a_opposite (g := (mkF mM 1 #[.val (.ref a)] [(.ref a)])) rfl rfl (hb hby d_prog_21_method_5_1)
  obtain ⟨fs, hr, hrun, hended, hW, hsame⟩ := X1.leave (v := some (.ref b)) (fun h => by rw [Bd.returns] at h; cases h)
  refine ⟨_, _, pre0 _ ?_, hrun, hended, _, _, rfl, ?_, ⟨_, rfl⟩, hW, hsame.mono (by decide) (by decide)⟩
  · refine XS.aloadN X0.here hx rfl (hb hby d_prog_21_method_5_0) rfl rfl ?_
    show Steps pP.tables eE below (s₁.setTop (mkF mM 1 #[.val (.ref a)] [(.ref a)])) _
    refine st1 _ ?_
    show Steps pP.tables eE below (T1.setTop (mkF mM 4 #[.val (.ref a)] [(.ref b)])) _
    jvm_step X1.here [X1.here.top, hx, (hb hby d_prog_21_method_5_4), X1.method', Bd.returns, Value.isRef, FieldType.isReference]
    first | (intro acts; rw [hr _ acts rfl rfl rfl]) | rw [hr _ _ rfl rfl rfl]
    exact Steps.refl _
  · show Q_inv Z a b h0 n0 _ T1.heap _
    rw [e1]
    exact ⟨rfl, rfl, rfl⟩
theorem ef_iri (m : MethodId) (x0 : Addr) : entryFrame m #[(.ref x0)] 1 = mkF m 0 #[.val (.ref x0)] [] := by first | (simp [entryFrame, mkF, argsToLocals, Value.category]; done) | rfl
def Q_iri (Z : State) (a : Addr) (b : Addr) (h0 : Heap) (n0 : Nat) (vV : Option Value) (h : Heap) (LL : List Loc) : Prop := vV = some (.ref b) ∧ LL = [] ∧ h = h0
set_option maxRecDepth 65536 in
set_option maxHeartbeats 40000000 in
theorem rm_iri (l : Launch) (Z : State) (a0 : Array Value) (hw : ∀ d ∈ tables_1, d.before a0 Z = true) (ws : List Jvm.Cond) (a : Addr) (b : Addr) (h0 : Heap) (n0 : Nat) (O0 : Old Z n0 h0) (F_a_iri : Fld Z h0 a "com/example/subsumer/subsumer/Role" "iri" "Ljava/lang/String;" (.ref b)) :
    MetFree l (⟨"com/example/subsumer/subsumer/Role", "iri", "()Ljava/lang/String;"⟩ : MethodName) (head1 (Jvm.Cond.code (⟨"com/example/subsumer/subsumer/Role", "iri", "()Ljava/lang/String;"⟩ : MethodName) prog_21_method_3_code 1 (some (.object "java/lang/String")) :: ws) ({ frames := 0, cells := 0, slots := 0, locals := 0 } : Room)) (fun aa_ U => aa_ = #[(.ref a)] ∧ Z.Warmed39 U.vm ∧ U.heap = h0) (fun _ _ _ _ _ => True) (fun _ U o U' => ∃ vV LL, o = .returned vV ∧ Q_iri Z a b h0 n0 vV U'.heap LL ∧ FrameEnd U o U' LL ({ frames := 0, cells := 0, slots := 0, locals := 0 } : Room).cells ({ frames := 0, cells := 0, slots := 0, locals := 0 } : Room).slots) := by
  refine MetFree.of_bodySF (plainFor_of_name pn_2) hisR ?_
  intro pP eE sS mM args below meth cC s₁ Bd hml0 hP hK
  obtain ⟨rfl, hZ, hh⟩ := hP
  have hx := Bd.exec
  have hby := Bd.bytes
  have hml : cC.maxLocals = 1 := hml0
  have hown : sS.vm.findClass "com/example/subsumer/subsumer/Role" = some mM.cls := findClass_of_methodNamed Bd.named
  have hnm := (name_of_methodNamed Bd.named Bd.method).1
  have X0 : Stand pP l eE ({ frames := 0, cells := 0, slots := 0, locals := 0 } : Room) sS mM #[(.ref a)] below meth cC s₁ [] 0 0 := Stand.of_body Bd
  have e0 : s₁.heap = h0 := by rw [← hh, Bd.state]; rfl
  have N0 := Fr.nil n0
  have pre0 : ∀ tg, Steps pP.tables eE below (s₁.setTop (mkF mM 0 #[.val (.ref a)] [])) tg → Steps pP.tables eE below (s₁.setTop (entryFrame mM #[(.ref a)] 1)) tg := fun tg kg => castTop (ef_iri mM a) kg
  obtain ⟨T1, X1, e1, st1⟩ := getF X0 hx hZ hown (host := "") (Or.inl (w_40 hw)) Via.refl e0 F_a_iri (g := (mkF mM 1 #[.val (.ref a)] [(.ref a)])) rfl rfl (hb hby d_prog_21_method_3_1)
  obtain ⟨fs, hr, hrun, hended, hW, hsame⟩ := X1.leave (v := some (.ref b)) (fun h => by rw [Bd.returns] at h; cases h)
  refine ⟨_, _, pre0 _ ?_, hrun, hended, _, _, rfl, ?_, ⟨_, rfl⟩, hW, hsame.mono (by decide) (by decide)⟩
  · refine XS.aloadN X0.here hx rfl (hb hby d_prog_21_method_3_0) rfl rfl ?_
    show Steps pP.tables eE below (s₁.setTop (mkF mM 1 #[.val (.ref a)] [(.ref a)])) _
    refine st1 _ ?_
    show Steps pP.tables eE below (T1.setTop (mkF mM 4 #[.val (.ref a)] [(.ref b)])) _
    jvm_step X1.here [X1.here.top, hx, (hb hby d_prog_21_method_3_4), X1.method', Bd.returns, Value.isRef, FieldType.isReference]
    first | (intro acts; rw [hr _ acts rfl rfl rfl]) | rw [hr _ _ rfl rfl rfl]
    exact Steps.refl _
  · show Q_iri Z a b h0 n0 _ T1.heap _
    rw [e1]
    exact ⟨rfl, rfl, rfl⟩
theorem ef_isi (m : MethodId) (x0 : Addr) : entryFrame m #[(.ref x0)] 1 = mkF m 0 #[.val (.ref x0)] [] := by first | (simp [entryFrame, mkF, argsToLocals, Value.category]; done) | rfl
def Q_isi (Z : State) (a : Addr) (z : Int32) (h0 : Heap) (n0 : Nat) (vV : Option Value) (h : Heap) (LL : List Loc) : Prop := vV = some (.int z) ∧ LL = [] ∧ h = h0
set_option maxRecDepth 65536 in
set_option maxHeartbeats 40000000 in
theorem rm_isi (l : Launch) (Z : State) (a0 : Array Value) (hw : ∀ d ∈ tables_1, d.before a0 Z = true) (ws : List Jvm.Cond) (a : Addr) (z : Int32) (h0 : Heap) (n0 : Nat) (O0 : Old Z n0 h0) (F_a_inverse : Fld Z h0 a "com/example/subsumer/subsumer/Role" "inverse" "Z" (.int z)) (hp1 : (nar .boolean z = z)) :
    MetFree l (⟨"com/example/subsumer/subsumer/Role", "isInverse", "()Z"⟩ : MethodName) (head1 (Jvm.Cond.code (⟨"com/example/subsumer/subsumer/Role", "isInverse", "()Z"⟩ : MethodName) prog_21_method_4_code 1 (some .boolean) :: ws) ({ frames := 0, cells := 0, slots := 0, locals := 0 } : Room)) (fun aa_ U => aa_ = #[(.ref a)] ∧ Z.Warmed39 U.vm ∧ U.heap = h0) (fun _ _ _ _ _ => True) (fun _ U o U' => ∃ vV LL, o = .returned vV ∧ Q_isi Z a z h0 n0 vV U'.heap LL ∧ FrameEnd U o U' LL ({ frames := 0, cells := 0, slots := 0, locals := 0 } : Room).cells ({ frames := 0, cells := 0, slots := 0, locals := 0 } : Room).slots) := by
  refine MetFree.of_bodySF (plainFor_of_name pn_2) hisR ?_
  intro pP eE sS mM args below meth cC s₁ Bd hml0 hP hK
  obtain ⟨rfl, hZ, hh⟩ := hP
  have hx := Bd.exec
  have hby := Bd.bytes
  have hml : cC.maxLocals = 1 := hml0
  have hown : sS.vm.findClass "com/example/subsumer/subsumer/Role" = some mM.cls := findClass_of_methodNamed Bd.named
  have hnm := (name_of_methodNamed Bd.named Bd.method).1
  have X0 : Stand pP l eE ({ frames := 0, cells := 0, slots := 0, locals := 0 } : Room) sS mM #[(.ref a)] below meth cC s₁ [] 0 0 := Stand.of_body Bd
  have e0 : s₁.heap = h0 := by rw [← hh, Bd.state]; rfl
  have N0 := Fr.nil n0
  have pre0 : ∀ tg, Steps pP.tables eE below (s₁.setTop (mkF mM 0 #[.val (.ref a)] [])) tg → Steps pP.tables eE below (s₁.setTop (entryFrame mM #[(.ref a)] 1)) tg := fun tg kg => castTop (ef_isi mM a) kg
  obtain ⟨T1, X1, e1, st1⟩ := getF X0 hx hZ hown (host := "") (Or.inl (w_44 hw)) Via.refl e0 F_a_inverse (g := (mkF mM 1 #[.val (.ref a)] [(.ref a)])) rfl rfl (hb hby d_prog_21_method_4_1)
  obtain ⟨fs, hr, hrun, hended, hW, hsame⟩ := X1.leave (v := some (.int (nar .boolean z))) (fun h => by rw [Bd.returns] at h; cases h)
  refine ⟨_, _, pre0 _ ?_, hrun, hended, _, _, rfl, ?_, ⟨_, rfl⟩, hW, hsame.mono (by decide) (by decide)⟩
  · refine XS.aloadN X0.here hx rfl (hb hby d_prog_21_method_4_0) rfl rfl ?_
    show Steps pP.tables eE below (s₁.setTop (mkF mM 1 #[.val (.ref a)] [(.ref a)])) _
    refine st1 _ ?_
    show Steps pP.tables eE below (T1.setTop (mkF mM 4 #[.val (.ref a)] [(.int z)])) _
    exact retN X1 hx (t := .boolean) Bd.returns (by simp) (hb hby d_prog_21_method_4_4) hr
  · show Q_isi Z a z h0 n0 _ T1.heap _
    rw [e1]
    exact ⟨(by rw [hp1]), rfl, rfl⟩
theorem ef_hsh (m : MethodId) (x0 : Addr) : entryFrame m #[(.ref x0)] 1 = mkF m 0 #[.val (.ref x0)] [] := by first | (simp [entryFrame, mkF, argsToLocals, Value.category]; done) | rfl
def Q_hsh (Z : State) (a : Addr) (z : Int32) (h0 : Heap) (n0 : Nat) (vV : Option Value) (h : Heap) (LL : List Loc) : Prop := vV = some (.int z) ∧ LL = [] ∧ h = h0
set_option maxRecDepth 65536 in
set_option maxHeartbeats 40000000 in
theorem rm_hsh (l : Launch) (Z : State) (a0 : Array Value) (hw : ∀ d ∈ tables_1, d.before a0 Z = true) (ws : List Jvm.Cond) (a : Addr) (z : Int32) (h0 : Heap) (n0 : Nat) (O0 : Old Z n0 h0) (F_a_id : Fld Z h0 a "com/example/subsumer/subsumer/Role" "id" "I" (.int z)) :
    MetFree l (⟨"com/example/subsumer/subsumer/Role", "hashCode", "()I"⟩ : MethodName) (head1 (Jvm.Cond.code (⟨"com/example/subsumer/subsumer/Role", "hashCode", "()I"⟩ : MethodName) prog_21_method_6_code 1 (some .int) :: ws) ({ frames := 0, cells := 0, slots := 0, locals := 0 } : Room)) (fun aa_ U => aa_ = #[(.ref a)] ∧ Z.Warmed39 U.vm ∧ U.heap = h0) (fun _ _ _ _ _ => True) (fun _ U o U' => ∃ vV LL, o = .returned vV ∧ Q_hsh Z a z h0 n0 vV U'.heap LL ∧ FrameEnd U o U' LL ({ frames := 0, cells := 0, slots := 0, locals := 0 } : Room).cells ({ frames := 0, cells := 0, slots := 0, locals := 0 } : Room).slots) := by
  refine MetFree.of_bodySF (plainFor_of_name pn_2) hisR ?_
  intro pP eE sS mM args below meth cC s₁ Bd hml0 hP hK
  obtain ⟨rfl, hZ, hh⟩ := hP
  have hx := Bd.exec
  have hby := Bd.bytes
  have hml : cC.maxLocals = 1 := hml0
  have hown : sS.vm.findClass "com/example/subsumer/subsumer/Role" = some mM.cls := findClass_of_methodNamed Bd.named
  have hnm := (name_of_methodNamed Bd.named Bd.method).1
  have X0 : Stand pP l eE ({ frames := 0, cells := 0, slots := 0, locals := 0 } : Room) sS mM #[(.ref a)] below meth cC s₁ [] 0 0 := Stand.of_body Bd
  have e0 : s₁.heap = h0 := by rw [← hh, Bd.state]; rfl
  have N0 := Fr.nil n0
  have pre0 : ∀ tg, Steps pP.tables eE below (s₁.setTop (mkF mM 0 #[.val (.ref a)] [])) tg → Steps pP.tables eE below (s₁.setTop (entryFrame mM #[(.ref a)] 1)) tg := fun tg kg => castTop (ef_hsh mM a) kg
  obtain ⟨T1, X1, e1, st1⟩ := getF X0 hx hZ hown (host := "") (Or.inl (w_42 hw)) Via.refl e0 F_a_id (g := (mkF mM 1 #[.val (.ref a)] [(.ref a)])) rfl rfl (hb hby d_prog_21_method_6_1)
  obtain ⟨fs, hr, hrun, hended, hW, hsame⟩ := X1.leave (v := some (.int z)) (fun h => by rw [Bd.returns] at h; cases h)
  refine ⟨_, _, pre0 _ ?_, hrun, hended, _, _, rfl, ?_, ⟨_, rfl⟩, hW, hsame.mono (by decide) (by decide)⟩
  · refine XS.aloadN X0.here hx rfl (hb hby d_prog_21_method_6_0) rfl rfl ?_
    show Steps pP.tables eE below (s₁.setTop (mkF mM 1 #[.val (.ref a)] [(.ref a)])) _
    refine st1 _ ?_
    show Steps pP.tables eE below (T1.setTop (mkF mM 4 #[.val (.ref a)] [(.int z)])) _
    exact retI X1 hx Bd.returns (hb hby d_prog_21_method_6_4) hr
  · show Q_hsh Z a z h0 n0 _ T1.heap _
    rw [e1]
    exact ⟨rfl, rfl, rfl⟩
theorem ef_law (m : MethodId) (x0 : Int32) (x1 : Int32) (x2 : Int32) (x3 : Int32) (x4 : Int32) : entryFrame m #[(.int x0), (.int x1), (.int x2), (.int x3), (.int x4)] maxLocals = mkF m 0 #[.val (.int x0), .val (.int x1), .val (.int x2), .val (.int x3), .val (.int x4), .unset, .unset, .unset, .unset, .unset, .unset, .unset, .unset, .unset, .unset, .unset] [] := by first | (simp [entryFrame, mkF, argsToLocals, Value.category, maxLocals]; done) | rfl
def Q_law (Z : State) (p0 : Int32) (p1 : Int32) (p2 : Int32) (p3 : Int32) (p4 : Int32) (zc : Int32) (fm : Value) (h0 : Heap) (n0 : Nat) (vV : Option Value) (h : Heap) (LL : List Loc) : Prop := vV = some (.int 1) ∧ Fr n0 LL ∧ Keep h0 h []
set_option maxRecDepth 65536 in
set_option maxHeartbeats 40000000 in
theorem rm_law (l : Launch) (Z : State) (a0 : Array Value) (hw : ∀ d ∈ tables_1, d.before a0 Z = true) (ws : List Jvm.Cond) (p0 : Int32) (p1 : Int32) (p2 : Int32) (p3 : Int32) (p4 : Int32) (zc : Int32) (fm : Value) (h0 : Heap) (n0 : Nat) (O0 : Old Z n0 h0) (S_COMPACT_STRINGS : Sta Z Z.heap "java/lang/String" "COMPACT_STRINGS" "Z" (.int zc)) (hp1 : (¬ (zc = (0 : Int32)))) (S_SIOOBE_FORMATTER : Sta Z Z.heap "jdk/internal/util/Preconditions" "SIOOBE_FORMATTER" "Ljava/util/function/BiFunction;" fm) (hp3 : (fm.isRef = true)) :
    MetFree l x (head1 (Jvm.Cond.code x code maxLocals ret :: ws) room_1) (fun aa_ U => aa_ = #[(.int p0), (.int p1), (.int p2), (.int p3), (.int p4)] ∧ Z.Warmed39 U.vm ∧ U.heap = h0 ∧ CHv Z own_EL U.vm h0 ∧ ∀ xX_ ∈ ([] : List Addr), Safe Z own_EL U.vm h0 xX_) (fun _ _ _ _ _ => True) (fun _ U o U' => ∃ vV LL, o = .returned vV ∧ Q_law Z p0 p1 p2 p3 p4 zc fm h0 n0 vV U'.heap LL ∧ CHr Z own_EL U.vm U.heap U'.vm U'.heap ∧ ReturnedEndW U o U' LL room_1.cells room_1.slots) := by
  refine MetFree.of_bodySF (plainFor_of_name pn_3) hisR ?_
  intro pP eE sS mM args below meth cC s₁ Bd hml0 hP hK
  obtain ⟨rfl, hZ, hh, hCH, hSf⟩ := hP
  have hx := Bd.exec
  have hby := Bd.bytes
  have hml : cC.maxLocals = 16 := hml0
  have hown : sS.vm.findClass "com/example/subsumer/subsumer/RolePropertyPinLaw" = some mM.cls := findClass_of_methodNamed Bd.named
  have hnm := (name_of_methodNamed Bd.named Bd.method).1
  have X0 : Stand pP l eE room_1 (sS.setVm sS.vm) mM #[(.int p0), (.int p1), (.int p2), (.int p3), (.int p4)] below meth cC s₁ [] 0 0 := Stand.of_body Bd
  have e0 : s₁.heap = h0 := by rw [← hh, Bd.state]; rfl
  have N0 := Fr.nil n0
  have pre0 : ∀ tg, Steps pP.tables eE below (s₁.setTop (mkF mM 0 #[.val (.int p0), .val (.int p1), .val (.int p2), .val (.int p3), .val (.int p4), .unset, .unset, .unset, .unset, .unset, .unset, .unset, .unset, .unset, .unset, .unset] [])) tg → Steps pP.tables eE below (s₁.setTop (entryFrame mM #[(.int p0), (.int p1), (.int p2), (.int p3), (.int p4)] maxLocals)) tg := fun tg kg => castTop (ef_law mM p0 p1 p2 p3 p4) kg
  have K0 : Keep h0 h0 [] := Keep.refl _ _
  have hZ0 : Z.Warmed39 (sS.setVm sS.vm).vm := hZ
  have hown0 : (sS.setVm sS.vm).vm.findClass "com/example/subsumer/subsumer/RolePropertyPinLaw" = some mM.cls := hown
  have hS0 : sS.Since sS.vm 0 := (State.WarmedH.refl sS).since 0
  have hk0 : 0 ≤ h0.size := Nat.zero_le _
  have CH0 : CHr Z own_EL sS.vm h0 sS.vm h0 := CHr.refl hCH
  have hEL := own_EW hw
  have wS := own_wS hw
  have hcs : ∀ c ∈ ([(p0 &&& (255 : Int32)), (p1 &&& (255 : Int32))] : List Int32), ¬ c < 0 ∧ ¬ (255 : Int32) < c := by
    intro c hc
    simp only [List.mem_cons, List.not_mem_nil, or_false] at hc
    rcases hc with rfl | rfl <;> exact own_c255 _
  obtain ⟨T1, h1, k1, X1, e1, E1, A1, st1⟩ := newP X0 hx hZ0 (aty := .char) (w_0 hw) e0 (g := (mkF mM 1 #[.val (.int p0), .val (.int p1), .val (.int p2), .val (.int p3), .val (.int p4), .unset, .unset, .unset, .unset, .unset, .unset, .unset, .unset, .unset, .unset, .unset] [(.int (2 : Int32))])) rfl (hb hby at_1) rfl (by decide) (cap := 2) (by decide) (by decide) (by decide) (by decide)
  obtain ⟨b1, g1⟩ : ∃ z, z = h0.size := ⟨_, rfl⟩
  rw [← g1] at A1 st1
  have Sn_b1 : Safe Z own_EL sS.vm h0 b1 := Safe.new (Nat.le_of_eq g1.symm)
  have g_b1 : n0 ≤ b1 := Nat.le_trans (own_osz O0) (Nat.le_of_eq g1.symm)
  have sz_b1 : h0.size ≤ b1 := Nat.le_trans K0.1 (Nat.le_of_eq g1.symm)
  have CH2 : CHr Z own_EL sS.vm h0 sS.vm h1 := CH0.trans (CHr.ext E1 CH0.1)
  have hk3 := Nat.le_trans hk0 E1.1
  have K4 : Keep h0 h1 [] := K0.ext E1
  have V1 : Arv Z h1 b1 k1 .char (2 : Int32) [(.int (0 : Int32)), (.int (0 : Int32))] (.int (0 : Int32)) := (Arv.new A1 (by decide)).pad (pad_rep [] (.int (0 : Int32)) 2)
  obtain ⟨cl5, Ar5, qk5, S5, Nn5, Hh5, G5⟩ := id V1
  have hin5 : ¬ ((0 : Int32) < 0 ∨ cl5.slots.size ≤ ((0 : Int32)).toNatClampNeg) := inb_of S5 ⟨by decide, by decide⟩
  obtain ⟨T5, h5, X5, e5, W5, st5⟩ := stC X1 hx hZ0 e1 Ar5 (j := (0 : Int32)) hin5 (g := (mkF mM 11 #[.val (.int p0), .val (.int p1), .val (.int p2), .val (.int p3), .val (.int p4), .unset, .unset, .unset, .unset, .unset, .unset, .unset, .unset, .unset, .unset, .unset] [(.int (p0 &&& (255 : Int32))), (.int (0 : Int32)), (.ref b1), (.ref b1)])) rfl rfl (hb hby at_11)
  rw [own_narm p0] at W5
  have f8 := (Safe.ext E1 CH0.1 Sn_b1)
  have sfp7 := f8
  have CH6 : CHr Z own_EL sS.vm h0 sS.vm h5 := CH2.trans (CHr.wr W5 sfp7 CH2.1)
  have hk9 := Nat.le_trans hk3 (Nat.le_of_eq W5.size.symm)
  have K10 : Keep h0 h5 [] := K4.wr W5 (Or.inr sz_b1)
  have V5 : Arv Z h5 b1 k1 .char (2 : Int32) [(.int (p0 &&& (255 : Int32))), (.int (0 : Int32))] (.int (0 : Int32)) := Arv.set Ar5 qk5 S5 Nn5 Hh5 G5 (own_narm p0 ▸ fits_nar_char _) W5 0 rfl (Nat.le_of_ble_eq_true rfl)
  have N5 := Fr.snoc X5 N0 g_b1
  obtain ⟨cl11, Ar11, qk11, S11, Nn11, Hh11, G11⟩ := id V5
  have hin11 : ¬ ((1 : Int32) < 0 ∨ cl11.slots.size ≤ ((1 : Int32)).toNatClampNeg) := inb_of S11 ⟨by decide, by decide⟩
  obtain ⟨T11, h11, X11, e11, W11, st11⟩ := stC X5 hx hZ0 e5 Ar11 (j := (1 : Int32)) hin11 (g := (mkF mM 20 #[.val (.int p0), .val (.int p1), .val (.int p2), .val (.int p3), .val (.int p4), .unset, .unset, .unset, .unset, .unset, .unset, .unset, .unset, .unset, .unset, .unset] [(.int (p1 &&& (255 : Int32))), (.int (1 : Int32)), (.ref b1), (.ref b1)])) rfl rfl (hb hby at_20)
  rw [own_narm p1] at W11
  have f14 := (Safe.wr W5 sfp7 CH2.1 f8)
  have sfp13 := f14
  have CH12 : CHr Z own_EL sS.vm h0 sS.vm h11 := CH6.trans (CHr.wr W11 sfp13 CH6.1)
  have hk15 := Nat.le_trans hk9 (Nat.le_of_eq W11.size.symm)
  have K16 : Keep h0 h11 [] := K10.wr W11 (Or.inr sz_b1)
  have V11 : Arv Z h11 b1 k1 .char (2 : Int32) [(.int (p0 &&& (255 : Int32))), (.int (p1 &&& (255 : Int32)))] (.int (0 : Int32)) := Arv.set Ar11 qk11 S11 Nn11 Hh11 G11 (own_narm p1 ▸ fits_nar_char _) W11 1 rfl (Nat.le_of_ble_eq_true rfl)
  have N11 := Fr.snoc X11 N5 g_b1
  let Ls17 : Array Slot := #[.val (.int p0), .val (.int p1), .val (.int p2), .val (.int p3), .val (.int p4), .val (.ref b1), .unset, .unset, .unset, .unset, .unset, .unset, .unset, .unset, .unset, .unset]
  obtain ⟨T18, h18, k18, X18, e18, E18, A18, st18⟩ := newP X11 hx hZ0 (aty := .char) (w_0 hw) e11 (g := (mkF mM 24 Ls17 [(.int (0 : Int32))])) rfl (hb hby at_24) rfl (by decide) (cap := 0) (by decide) (by decide) (by decide) (by decide)
  obtain ⟨b18, g18⟩ : ∃ z, z = h11.size := ⟨_, rfl⟩
  rw [← g18] at A18 st18
  have Sn_b18 : Safe Z own_EL sS.vm h11 b18 := Safe.new (Nat.le_of_eq g18.symm)
  have f19 := (((O0.ext E1).wr W5 g_b1).wr W11 g_b1)
  have g_b18 : n0 ≤ b18 := Nat.le_trans (own_osz f19) (Nat.le_of_eq g18.symm)
  have sz_b18 : h0.size ≤ b18 := Nat.le_trans K16.1 (Nat.le_of_eq g18.symm)
  have CH20 : CHr Z own_EL sS.vm h0 sS.vm h18 := CH12.trans (CHr.ext E18 CH12.1)
  have hk21 := Nat.le_trans hk15 E18.1
  have K22 : Keep h0 h18 [] := K16.ext E18
  have V18 : Arv Z h18 b18 k18 .char (0 : Int32) [] (.int (0 : Int32)) := Arv.new A18 (by decide)
  let Ls23 : Array Slot := #[.val (.int p0), .val (.int p1), .val (.int p2), .val (.int p3), .val (.int p4), .val (.ref b1), .val (.ref b18), .unset, .unset, .unset, .unset, .unset, .unset, .unset, .unset, .unset]
  have pre24 : ∀ tg, Steps pP.tables eE below (T18.setTop (mkF mM 28 Ls23 [])) tg → Steps pP.tables eE below (s₁.setTop (entryFrame mM #[(.int p0), (.int p1), (.int p2), (.int p3), (.int p4)] maxLocals)) tg := fun tg kg => pre0 tg (by
    refine XS.iconst X0.here hx rfl (hb hby at_0) ?_
    show Steps pP.tables eE below (s₁.setTop (mkF mM 1 #[.val (.int p0), .val (.int p1), .val (.int p2), .val (.int p3), .val (.int p4), .unset, .unset, .unset, .unset, .unset, .unset, .unset, .unset, .unset, .unset, .unset] [(.int (2 : Int32))])) _
    refine st1 _ ?_
    show Steps pP.tables eE below (T1.setTop (mkF mM 3 #[.val (.int p0), .val (.int p1), .val (.int p2), .val (.int p3), .val (.int p4), .unset, .unset, .unset, .unset, .unset, .unset, .unset, .unset, .unset, .unset, .unset] [(.ref b1)])) _
    refine XS.dup X1.here hx rfl (hb hby at_3) rfl rfl ?_
    show Steps pP.tables eE below (T1.setTop (mkF mM 4 #[.val (.int p0), .val (.int p1), .val (.int p2), .val (.int p3), .val (.int p4), .unset, .unset, .unset, .unset, .unset, .unset, .unset, .unset, .unset, .unset, .unset] [(.ref b1), (.ref b1)])) _
    refine XS.iconst X1.here hx rfl (hb hby at_4) ?_
    show Steps pP.tables eE below (T1.setTop (mkF mM 5 #[.val (.int p0), .val (.int p1), .val (.int p2), .val (.int p3), .val (.int p4), .unset, .unset, .unset, .unset, .unset, .unset, .unset, .unset, .unset, .unset, .unset] [(.int (0 : Int32)), (.ref b1), (.ref b1)])) _
    refine XS.iloadN X1.here hx rfl (hb hby at_5) rfl ?_
    show Steps pP.tables eE below (T1.setTop (mkF mM 6 #[.val (.int p0), .val (.int p1), .val (.int p2), .val (.int p3), .val (.int p4), .unset, .unset, .unset, .unset, .unset, .unset, .unset, .unset, .unset, .unset, .unset] [(.int p0), (.int (0 : Int32)), (.ref b1), (.ref b1)])) _
    refine XS.sipush X1.here hx rfl (hb hby at_6) ?_
    show Steps pP.tables eE below (T1.setTop (mkF mM 9 #[.val (.int p0), .val (.int p1), .val (.int p2), .val (.int p3), .val (.int p4), .unset, .unset, .unset, .unset, .unset, .unset, .unset, .unset, .unset, .unset, .unset] [(.int (255 : Int32)), (.int p0), (.int (0 : Int32)), (.ref b1), (.ref b1)])) _
    refine XS.iand X1.here hx rfl (hb hby at_9) rfl ?_
    show Steps pP.tables eE below (T1.setTop (mkF mM 10 #[.val (.int p0), .val (.int p1), .val (.int p2), .val (.int p3), .val (.int p4), .unset, .unset, .unset, .unset, .unset, .unset, .unset, .unset, .unset, .unset, .unset] [(.int (p0 &&& (255 : Int32))), (.int (0 : Int32)), (.ref b1), (.ref b1)])) _
    refine XS.i2c X1.here hx rfl (hb hby at_10) rfl ?_
    show Steps pP.tables eE below (T1.setTop (mkF mM 11 #[.val (.int p0), .val (.int p1), .val (.int p2), .val (.int p3), .val (.int p4), .unset, .unset, .unset, .unset, .unset, .unset, .unset, .unset, .unset, .unset, .unset] [(.int ((p0 &&& (255 : Int32)).toUInt32.toUInt16.toUInt32.toInt32)), (.int (0 : Int32)), (.ref b1), (.ref b1)])) _
    rw [i2c_mask p0]
    show Steps pP.tables eE below (T1.setTop (mkF mM 11 #[.val (.int p0), .val (.int p1), .val (.int p2), .val (.int p3), .val (.int p4), .unset, .unset, .unset, .unset, .unset, .unset, .unset, .unset, .unset, .unset, .unset] [(.int (p0 &&& (255 : Int32))), (.int (0 : Int32)), (.ref b1), (.ref b1)])) _
    refine st5 _ ?_
    show Steps pP.tables eE below (T5.setTop (mkF mM 12 #[.val (.int p0), .val (.int p1), .val (.int p2), .val (.int p3), .val (.int p4), .unset, .unset, .unset, .unset, .unset, .unset, .unset, .unset, .unset, .unset, .unset] [(.ref b1)])) _
    refine XS.dup X5.here hx rfl (hb hby at_12) rfl rfl ?_
    show Steps pP.tables eE below (T5.setTop (mkF mM 13 #[.val (.int p0), .val (.int p1), .val (.int p2), .val (.int p3), .val (.int p4), .unset, .unset, .unset, .unset, .unset, .unset, .unset, .unset, .unset, .unset, .unset] [(.ref b1), (.ref b1)])) _
    refine XS.iconst X5.here hx rfl (hb hby at_13) ?_
    show Steps pP.tables eE below (T5.setTop (mkF mM 14 #[.val (.int p0), .val (.int p1), .val (.int p2), .val (.int p3), .val (.int p4), .unset, .unset, .unset, .unset, .unset, .unset, .unset, .unset, .unset, .unset, .unset] [(.int (1 : Int32)), (.ref b1), (.ref b1)])) _
    refine XS.iloadN X5.here hx rfl (hb hby at_14) rfl ?_
    show Steps pP.tables eE below (T5.setTop (mkF mM 15 #[.val (.int p0), .val (.int p1), .val (.int p2), .val (.int p3), .val (.int p4), .unset, .unset, .unset, .unset, .unset, .unset, .unset, .unset, .unset, .unset, .unset] [(.int p1), (.int (1 : Int32)), (.ref b1), (.ref b1)])) _
    refine XS.sipush X5.here hx rfl (hb hby at_15) ?_
    show Steps pP.tables eE below (T5.setTop (mkF mM 18 #[.val (.int p0), .val (.int p1), .val (.int p2), .val (.int p3), .val (.int p4), .unset, .unset, .unset, .unset, .unset, .unset, .unset, .unset, .unset, .unset, .unset] [(.int (255 : Int32)), (.int p1), (.int (1 : Int32)), (.ref b1), (.ref b1)])) _
    refine XS.iand X5.here hx rfl (hb hby at_18) rfl ?_
    show Steps pP.tables eE below (T5.setTop (mkF mM 19 #[.val (.int p0), .val (.int p1), .val (.int p2), .val (.int p3), .val (.int p4), .unset, .unset, .unset, .unset, .unset, .unset, .unset, .unset, .unset, .unset, .unset] [(.int (p1 &&& (255 : Int32))), (.int (1 : Int32)), (.ref b1), (.ref b1)])) _
    refine XS.i2c X5.here hx rfl (hb hby at_19) rfl ?_
    show Steps pP.tables eE below (T5.setTop (mkF mM 20 #[.val (.int p0), .val (.int p1), .val (.int p2), .val (.int p3), .val (.int p4), .unset, .unset, .unset, .unset, .unset, .unset, .unset, .unset, .unset, .unset, .unset] [(.int ((p1 &&& (255 : Int32)).toUInt32.toUInt16.toUInt32.toInt32)), (.int (1 : Int32)), (.ref b1), (.ref b1)])) _
    rw [i2c_mask p1]
    show Steps pP.tables eE below (T5.setTop (mkF mM 20 #[.val (.int p0), .val (.int p1), .val (.int p2), .val (.int p3), .val (.int p4), .unset, .unset, .unset, .unset, .unset, .unset, .unset, .unset, .unset, .unset, .unset] [(.int (p1 &&& (255 : Int32))), (.int (1 : Int32)), (.ref b1), (.ref b1)])) _
    refine st11 _ ?_
    show Steps pP.tables eE below (T11.setTop (mkF mM 21 #[.val (.int p0), .val (.int p1), .val (.int p2), .val (.int p3), .val (.int p4), .unset, .unset, .unset, .unset, .unset, .unset, .unset, .unset, .unset, .unset, .unset] [(.ref b1)])) _
    refine XS.astore X11.here hx rfl (hb hby at_21) rfl rfl (l' := Ls17) rfl ?_
    show Steps pP.tables eE below (T11.setTop (mkF mM 23 Ls17 [])) _
    refine XS.iconst X11.here hx rfl (hb hby at_23) ?_
    show Steps pP.tables eE below (T11.setTop (mkF mM 24 Ls17 [(.int (0 : Int32))])) _
    refine st18 _ ?_
    show Steps pP.tables eE below (T18.setTop (mkF mM 26 Ls17 [(.ref b18)])) _
    refine XS.astore X18.here hx rfl (hb hby at_26) rfl rfl (l' := Ls23) rfl ?_
    exact kg)
  rcases own_and3c p2 with hk | hk | hk | hk
  · let Ls25 : Array Slot := #[.val (.int p0), .val (.int p1), .val (.int p2), .val (.int p3), .val (.int p4), .val (.ref b1), .val (.ref b18), .val (.int (0 : Int32)), .unset, .unset, .unset, .unset, .unset, .unset, .unset, .unset]
    obtain ⟨T26, h26, X26, e26, E26, A26, D26, -, st26⟩ := newO X18 hx hZ0 hown0 (w_1 hw) (w_2 hw) (w_3 hw) e18 (g := (mkF mM 38 Ls25 [])) rfl (hb hby at_38) (by decide) (by decide)
    obtain ⟨b26, g26⟩ : ∃ z, z = h18.size := ⟨_, rfl⟩
    rw [← g26] at A26 D26 st26
    have Sn_b26 : Safe Z own_EL sS.vm h18 b26 := Safe.new (Nat.le_of_eq g26.symm)
    have f27 := (f19.ext E18)
    have g_b26 : n0 ≤ b26 := Nat.le_trans (own_osz f27) (Nat.le_of_eq g26.symm)
    have sz_b26 : h0.size ≤ b26 := Nat.le_trans K22.1 (Nat.le_of_eq g26.symm)
    have CH28 : CHr Z own_EL sS.vm h0 sS.vm h26 := CH20.trans (CHr.ext E26 CH20.1)
    have hk29 := Nat.le_trans hk21 E26.1
    have K30 : Keep h0 h26 [] := K22.ext E26
    have F_b26_coder : Fld Z h26 b26 "java/lang/String" "coder" "B" (.int (0 : Int32)) := D26 (Or.inr (w_27 hw)) (ty := .byte) (by decide)
    have F_b26_value : Fld Z h26 b26 "java/lang/String" "value" "[B" .null := D26 (Or.inr (w_29 hw)) (ty := (.array .byte)) (by decide)
    have f31 := (V18.ext E26)
    have f32 := (Safe.ext E26 CH20.1 Sn_b26)
    have f33 := (f27.ext E26)
    obtain ⟨_, _, ⟨T34, L34, k34, n34⟩, -, X34, hS234, hg234, ⟨Lc34, hQ34, l34, y34, z34, CHl34⟩, st34⟩ := X26.specialBackS hx (y := (⟨"java/lang/String", "<init>", "([C)V"⟩ : MethodName)) rfl hown0 (mvT hZ0 (w_4 hw)) (mvT hZ0 (w_5 hw)) (mvT hZ0 (w_6 hw)) (by decide) (own_backOfSH (s := sS) (vm0 := sS.vm) (rm := ({ frames := 2, cells := 4, slots := 8, locals := 29 } : Room)) (W := 1) (rm_se1 l Z a0 hw [] b26 b18 .null (.int (0 : Int32)) k18 h26 n0 f33 A26 F_b26_value F_b26_coder g_b26 f31) hZ0 (w_6 hw) (w_3 hw) (by decide) (by decide) hEL CH28.1 (own_sfS (A26).lt f32 own_sf0)) (g := (mkF mM 44 Ls25 [(.ref b18), (.ref b26), (.ref b26)])) rfl (by rw [hml]; rfl) (Steps.refl _) (a := b26) (argsL := [(.ref b18)]) (rest := [(.ref b26)]) (lenOf pd_5 rfl) rfl (by show 2 * 0 + _ ≤ _; exact Nat.le_of_eq rfl) (hb hby at_44) (fun _ _ => ⟨rfl, e26, (by decide : 3 + 4 ≤ _), (by decide : 6 + 8 ≤ _)⟩)
    dsimp only [Pt.U, Pt.locs, Pt.cells, Pt.slots] at X34 l34 y34 z34 st34 hQ34 hS234 hg234 CHl34
    subst l34 y34 z34
    have hS34 := foldS hS0 (by rw [e26]; exact hk29) hS234 hg234
    have hZ34 : Z.Warmed39 (sS.setVm T34.vm).vm := State.Warmed39.trans (t := sS.setVm sS.vm) hZ0 hS234.1
    have hown34 : (sS.setVm T34.vm).vm.findClass "com/example/subsumer/subsumer/RolePropertyPinLaw" = some mM.cls := by rw [show (sS.setVm T34.vm).vm = T34.vm from rfl, hS234.1.alike.findClass]; exact hown0
    have hk34 : T34.heap.size ≤ T34.heap.size := Nat.le_refl _
    replace X34 : Stand pP l eE room_1 (sS.setVm T34.vm) mM _ below meth cC T34 _ _ _ := X34
    obtain ⟨t_34, k_34, rfl, Nq34, Kq34, q34_0⟩ := hQ34
    have N34 := Fr.app N11 Nq34
    have CH35 : CHr Z own_EL sS.vm h0 T34.vm T34.heap := CH28.trans (CHl34)
    skip
    have K37 : Keep h0 T34.heap [] := K30.trans Kq34 (allS (Or.inr sz_b26) all0)
    let Ls38 : Array Slot := #[.val (.int p0), .val (.int p1), .val (.int p2), .val (.int p3), .val (.int p4), .val (.ref b1), .val (.ref b18), .val (.int (0 : Int32)), .val (.ref b26), .unset, .unset, .unset, .unset, .unset, .unset, .unset]
    let Ls39 : Array Slot := #[.val (.int p0), .val (.int p1), .val (.int p2), .val (.int p3), .val (.int p4), .val (.ref b1), .val (.ref b18), .val (.int (0 : Int32)), .val (.ref b26), .val (.int ((p3 + (1 : Int32)) + (p4 &&& (16383 : Int32)))), .unset, .unset, .unset, .unset, .unset, .unset]
    have f40 := (f33.keep Kq34 (allS g_b26 all0))
    obtain ⟨_, _, ⟨T41, L41, k41, n41⟩, -, X41, ⟨Lc41, hQ41, l41, y41, z41⟩, st41⟩ := Jvm.LawKit.callS X34 hx (y := (⟨"com/example/subsumer/subsumer/Role", "property", "(Ljava/lang/String;I)Lcom/example/subsumer/subsumer/Role;"⟩ : MethodName)) hown34 (mvT hZ34 (w_30 hw)) (mvT hZ34 (w_31 hw)) (mvT hZ34 (w_32 hw)) (mvT hZ34 (w_33 hw)) (by decide) (backOf (W := 0) (rm_prop l Z a0 hw [] b26 p3 T34.heap n0 f40 ) hZ34 (w_33 hw) (w_32 hw) (by decide) (by decide)) (g := (mkF mM 96 Ls39 [(.int p3), (.ref b26)])) rfl (by rw [hml]; rfl) (argsL := [(.ref b26), (.int p3)]) (rest := []) (lenOf pd_6 rfl) rfl (by show 2 * 0 + _ ≤ _; exact Nat.le_of_eq rfl) (hb hby at_96) (fun _ _ => ⟨rfl, rfl, (by decide : 7 + 2 ≤ _), (by decide : 14 + 8 ≤ _)⟩)
    dsimp only [Pt.U, Pt.locs, Pt.cells, Pt.slots] at X41 l41 y41 z41 st41 hQ41
    subst l41 y41 z41
    obtain ⟨a_41, b_41, rfl, Nq41, Kq41, q41_0, q41_1, q41_2, q41_3, q41_4, q41_5, q41_6, q41_7, q41_8, q41_9, q41_10, q41_11, q41_12⟩ := hQ41
    have N41 := Fr.app N34 Nq41
    have g_a_41 : n0 ≤ a_41 := Nat.le_trans (own_osz f40) q41_0
    have sz_a_41 : h0.size ≤ a_41 := Nat.le_trans K37.1 q41_0
    have g_b_41 : n0 ≤ b_41 := Nat.le_trans (own_osz f40) q41_1
    have sz_b_41 : h0.size ≤ b_41 := Nat.le_trans K37.1 q41_1
    have CH42 : CHr Z own_EL sS.vm h0 T34.vm T41.heap := CH35.trans (CHr.keep Kq41 sf0 CH35.1)
    have hk43 := Nat.le_trans hk34 Kq41.1
    have K44 : Keep h0 T41.heap [] := K37.trans Kq41 all0
    let Ls45 : Array Slot := #[.val (.int p0), .val (.int p1), .val (.int p2), .val (.int p3), .val (.int p4), .val (.ref b1), .val (.ref b18), .val (.int (0 : Int32)), .val (.ref b26), .val (.int ((p3 + (1 : Int32)) + (p4 &&& (16383 : Int32)))), .val (.ref a_41), .unset, .unset, .unset, .unset, .unset]
    have f46 := (f40.keep Kq41 all0)
    obtain ⟨cq47, kq47, q47a, q47b, q47c⟩ := isOf hZ34 rfl q41_3
    obtain ⟨_, _, ⟨T47, L47, k47, n47⟩, -, X47, ⟨Lc47, hQ47, l47, y47, z47⟩, st47⟩ := X41.virtualBack hx (y := (⟨"com/example/subsumer/subsumer/Role", "inverse", "()Lcom/example/subsumer/subsumer/Role;"⟩ : MethodName)) (z := (⟨"com/example/subsumer/subsumer/Role", "inverse", "()Lcom/example/subsumer/subsumer/Role;"⟩ : MethodName)) hown34 (mvT hZ34 (w_48 hw)) (mvT hZ34 (w_49 hw)) (notFace_of_selects (args := #[]) (mvT hZ34 (w_51 hw))) (mvT hZ34 (w_51 hw)) (mvT hZ34 (w_50 hw)) (by decide) (backOf (W := 0) (rm_inv l Z a0 hw [] a_41 b_41 T41.heap n0 f46 q41_11) hZ34 (w_52 hw) (w_32 hw) (by decide) (by decide)) q47a q47c (g := (mkF mM 110 Ls45 [(.ref a_41)])) rfl (by rw [hml]; rfl) (Steps.refl _) (argsL := []) (rest := []) (lenOf pd_7 rfl) rfl (by show 2 * 0 + _ ≤ _; exact Nat.le_of_eq rfl) (hb hby at_110) (fun _ _ => ⟨rfl, rfl, (by decide : 9 + 0 ≤ _), (by decide : 22 + 0 ≤ _)⟩)
    dsimp only [Pt.U, Pt.locs, Pt.cells, Pt.slots] at X47 l47 y47 z47 st47 hQ47
    subst l47 y47 z47
    obtain ⟨rfl, rfl, Kq47⟩ := hQ47
    try rw [List.append_nil] at X47
    let Ls48 : Array Slot := #[.val (.int p0), .val (.int p1), .val (.int p2), .val (.int p3), .val (.int p4), .val (.ref b1), .val (.ref b18), .val (.int (0 : Int32)), .val (.ref b26), .val (.int ((p3 + (1 : Int32)) + (p4 &&& (16383 : Int32)))), .val (.ref a_41), .val (.ref b_41), .unset, .unset, .unset, .unset]
    obtain ⟨cq49, kq49, q49a, q49b, q49c⟩ := isOf hZ34 Kq47 q41_3
    obtain ⟨_, _, ⟨T49, L49, k49, n49⟩, -, X49, ⟨Lc49, hQ49, l49, y49, z49⟩, st49⟩ := X47.virtualBack hx (y := (⟨"com/example/subsumer/subsumer/Role", "iri", "()Ljava/lang/String;"⟩ : MethodName)) (z := (⟨"com/example/subsumer/subsumer/Role", "iri", "()Ljava/lang/String;"⟩ : MethodName)) hown34 (mvT hZ34 (w_53 hw)) (mvT hZ34 (w_54 hw)) (notFace_of_selects (args := #[]) (mvT hZ34 (w_56 hw))) (mvT hZ34 (w_56 hw)) (mvT hZ34 (w_55 hw)) (by decide) (backOf (W := 1) (rm_iri l Z a0 hw [] a_41 b26 T41.heap n0 f46 q41_5) hZ34 (w_57 hw) (w_32 hw) (by decide) (by decide)) q49a q49c (g := (mkF mM 133 Ls48 [(.ref a_41), (.ref b26)])) rfl (by rw [hml]; rfl) (Steps.refl _) (argsL := []) (rest := [(.ref b26)]) (lenOf pd_8 rfl) rfl (by show 2 * 0 + _ ≤ _; exact Nat.le_of_eq rfl) (hb hby at_133) (fun _ _ => ⟨rfl, Kq47, (by decide : 9 + 0 ≤ _), (by decide : 22 + 0 ≤ _)⟩)
    dsimp only [Pt.U, Pt.locs, Pt.cells, Pt.slots] at X49 l49 y49 z49 st49 hQ49
    subst l49 y49 z49
    obtain ⟨rfl, rfl, Kq49⟩ := hQ49
    try rw [List.append_nil] at X49
    have f51 := ((q34_0).1.keep Kq41)
    obtain ⟨cq50, kq50, q50a, q50b, q50c⟩ := isOf hZ34 Kq49 f51
    obtain ⟨_, _, ⟨T50, L50, k50, n50⟩, -, X50, ⟨Lc50, hQ50, l50, y50, z50⟩, st50⟩ := X49.virtualBack hx (y := (⟨"java/lang/String", "equals", "(Ljava/lang/Object;)Z"⟩ : MethodName)) (z := (⟨"java/lang/String", "equals", "(Ljava/lang/Object;)Z"⟩ : MethodName)) hown34 (mvT hZ34 (w_58 hw)) (mvT hZ34 (w_59 hw)) (notFace_of_selects (args := #[]) (mvT hZ34 (w_61 hw))) (mvT hZ34 (w_61 hw)) (mvT hZ34 (w_60 hw)) (by decide) (backOf (W := 0) (rm_seqs l Z a0 hw [] b26 T41.heap n0 f46 ) hZ34 (w_62 hw) (w_3 hw) (by decide) (by decide)) q50a q50c (g := (mkF mM 136 Ls48 [(.ref b26), (.ref b26)])) rfl (by rw [hml]; rfl) (Steps.refl _) (argsL := [(.ref b26)]) (rest := []) (lenOf pd_9 rfl) rfl (by show 2 * 0 + _ ≤ _; exact Nat.le_of_eq rfl) (hb hby at_136) (fun _ _ => ⟨rfl, Kq49, (by decide : 9 + 0 ≤ _), (by decide : 22 + 0 ≤ _)⟩)
    dsimp only [Pt.U, Pt.locs, Pt.cells, Pt.slots] at X50 l50 y50 z50 st50 hQ50
    subst l50 y50 z50
    obtain ⟨rfl, rfl, Kq50⟩ := hQ50
    try rw [List.append_nil] at X50
    obtain ⟨cq52, kq52, q52a, q52b, q52c⟩ := isOf hZ34 Kq50 q41_4
    obtain ⟨_, _, ⟨T52, L52, k52, n52⟩, -, X52, ⟨Lc52, hQ52, l52, y52, z52⟩, st52⟩ := X50.virtualBack hx (y := (⟨"com/example/subsumer/subsumer/Role", "iri", "()Ljava/lang/String;"⟩ : MethodName)) (z := (⟨"com/example/subsumer/subsumer/Role", "iri", "()Ljava/lang/String;"⟩ : MethodName)) hown34 (mvT hZ34 (w_53 hw)) (mvT hZ34 (w_54 hw)) (notFace_of_selects (args := #[]) (mvT hZ34 (w_56 hw))) (mvT hZ34 (w_56 hw)) (mvT hZ34 (w_55 hw)) (by decide) (backOf (W := 1) (rm_iri l Z a0 hw [] b_41 b26 T41.heap n0 f46 q41_6) hZ34 (w_57 hw) (w_32 hw) (by decide) (by decide)) q52a q52c (g := (mkF mM 146 Ls48 [(.ref b_41), (.ref b26)])) rfl (by rw [hml]; rfl) (Steps.refl _) (argsL := []) (rest := [(.ref b26)]) (lenOf pd_8 rfl) rfl (by show 2 * 0 + _ ≤ _; exact Nat.le_of_eq rfl) (hb hby at_146) (fun _ _ => ⟨rfl, Kq50, (by decide : 9 + 0 ≤ _), (by decide : 22 + 0 ≤ _)⟩)
    dsimp only [Pt.U, Pt.locs, Pt.cells, Pt.slots] at X52 l52 y52 z52 st52 hQ52
    subst l52 y52 z52
    obtain ⟨rfl, rfl, Kq52⟩ := hQ52
    try rw [List.append_nil] at X52
    obtain ⟨cq53, kq53, q53a, q53b, q53c⟩ := isOf hZ34 Kq52 f51
    obtain ⟨_, _, ⟨T53, L53, k53, n53⟩, -, X53, ⟨Lc53, hQ53, l53, y53, z53⟩, st53⟩ := X52.virtualBack hx (y := (⟨"java/lang/String", "equals", "(Ljava/lang/Object;)Z"⟩ : MethodName)) (z := (⟨"java/lang/String", "equals", "(Ljava/lang/Object;)Z"⟩ : MethodName)) hown34 (mvT hZ34 (w_58 hw)) (mvT hZ34 (w_59 hw)) (notFace_of_selects (args := #[]) (mvT hZ34 (w_61 hw))) (mvT hZ34 (w_61 hw)) (mvT hZ34 (w_60 hw)) (by decide) (backOf (W := 0) (rm_seqs l Z a0 hw [] b26 T41.heap n0 f46 ) hZ34 (w_62 hw) (w_3 hw) (by decide) (by decide)) q53a q53c (g := (mkF mM 149 Ls48 [(.ref b26), (.ref b26)])) rfl (by rw [hml]; rfl) (Steps.refl _) (argsL := [(.ref b26)]) (rest := []) (lenOf pd_9 rfl) rfl (by show 2 * 0 + _ ≤ _; exact Nat.le_of_eq rfl) (hb hby at_149) (fun _ _ => ⟨rfl, Kq52, (by decide : 9 + 0 ≤ _), (by decide : 22 + 0 ≤ _)⟩)
    dsimp only [Pt.U, Pt.locs, Pt.cells, Pt.slots] at X53 l53 y53 z53 st53 hQ53
    subst l53 y53 z53
    obtain ⟨rfl, rfl, Kq53⟩ := hQ53
    try rw [List.append_nil] at X53
    let Ls54 : Array Slot := #[.val (.int p0), .val (.int p1), .val (.int p2), .val (.int p3), .val (.int p4), .val (.ref b1), .val (.ref b18), .val (.int (0 : Int32)), .val (.ref b26), .val (.int ((p3 + (1 : Int32)) + (p4 &&& (16383 : Int32)))), .val (.ref a_41), .val (.ref b_41), .val (.int (1 : Int32)), .unset, .unset, .unset]
    obtain ⟨cq55, kq55, q55a, q55b, q55c⟩ := isOf hZ34 Kq53 q41_3
    obtain ⟨_, _, ⟨T55, L55, k55, n55⟩, -, X55, ⟨Lc55, hQ55, l55, y55, z55⟩, st55⟩ := X53.virtualBack hx (y := (⟨"com/example/subsumer/subsumer/Role", "isInverse", "()Z"⟩ : MethodName)) (z := (⟨"com/example/subsumer/subsumer/Role", "isInverse", "()Z"⟩ : MethodName)) hown34 (mvT hZ34 (w_63 hw)) (mvT hZ34 (w_64 hw)) (notFace_of_selects (args := #[]) (mvT hZ34 (w_66 hw))) (mvT hZ34 (w_66 hw)) (mvT hZ34 (w_65 hw)) (by decide) (backOf (W := 0) (rm_isi l Z a0 hw [] a_41 (0 : Int32) T41.heap n0 f46 q41_9 (rfl : nar .boolean (0 : Int32) = (0 : Int32))) hZ34 (w_67 hw) (w_32 hw) (by decide) (by decide)) q55a q55c (g := (mkF mM 169 Ls54 [(.ref a_41)])) rfl (by rw [hml]; rfl) (Steps.refl _) (argsL := []) (rest := []) (lenOf pd_10 rfl) rfl (by show 2 * 0 + _ ≤ _; exact Nat.le_of_eq rfl) (hb hby at_169) (fun _ _ => ⟨rfl, Kq53, (by decide : 9 + 0 ≤ _), (by decide : 22 + 0 ≤ _)⟩)
    dsimp only [Pt.U, Pt.locs, Pt.cells, Pt.slots] at X55 l55 y55 z55 st55 hQ55
    subst l55 y55 z55
    obtain ⟨rfl, rfl, Kq55⟩ := hQ55
    try rw [List.append_nil] at X55
    obtain ⟨cq56, kq56, q56a, q56b, q56c⟩ := isOf hZ34 Kq55 q41_4
    obtain ⟨_, _, ⟨T56, L56, k56, n56⟩, -, X56, ⟨Lc56, hQ56, l56, y56, z56⟩, st56⟩ := X55.virtualBack hx (y := (⟨"com/example/subsumer/subsumer/Role", "isInverse", "()Z"⟩ : MethodName)) (z := (⟨"com/example/subsumer/subsumer/Role", "isInverse", "()Z"⟩ : MethodName)) hown34 (mvT hZ34 (w_63 hw)) (mvT hZ34 (w_64 hw)) (notFace_of_selects (args := #[]) (mvT hZ34 (w_66 hw))) (mvT hZ34 (w_66 hw)) (mvT hZ34 (w_65 hw)) (by decide) (backOf (W := 0) (rm_isi l Z a0 hw [] b_41 (1 : Int32) T41.heap n0 f46 q41_10 (rfl : nar .boolean (1 : Int32) = (1 : Int32))) hZ34 (w_67 hw) (w_32 hw) (by decide) (by decide)) q56a q56c (g := (mkF mM 177 Ls54 [(.ref b_41)])) rfl (by rw [hml]; rfl) (Steps.refl _) (argsL := []) (rest := []) (lenOf pd_10 rfl) rfl (by show 2 * 0 + _ ≤ _; exact Nat.le_of_eq rfl) (hb hby at_177) (fun _ _ => ⟨rfl, Kq55, (by decide : 9 + 0 ≤ _), (by decide : 22 + 0 ≤ _)⟩)
    dsimp only [Pt.U, Pt.locs, Pt.cells, Pt.slots] at X56 l56 y56 z56 st56 hQ56
    subst l56 y56 z56
    obtain ⟨rfl, rfl, Kq56⟩ := hQ56
    try rw [List.append_nil] at X56
    let Ls57 : Array Slot := #[.val (.int p0), .val (.int p1), .val (.int p2), .val (.int p3), .val (.int p4), .val (.ref b1), .val (.ref b18), .val (.int (0 : Int32)), .val (.ref b26), .val (.int ((p3 + (1 : Int32)) + (p4 &&& (16383 : Int32)))), .val (.ref a_41), .val (.ref b_41), .val (.int (1 : Int32)), .unset, .unset, .unset]
    obtain ⟨cq58, kq58, q58a, q58b, q58c⟩ := isOf hZ34 Kq56 q41_4
    obtain ⟨_, _, ⟨T58, L58, k58, n58⟩, -, X58, ⟨Lc58, hQ58, l58, y58, z58⟩, st58⟩ := X56.virtualBack hx (y := (⟨"com/example/subsumer/subsumer/Role", "inverse", "()Lcom/example/subsumer/subsumer/Role;"⟩ : MethodName)) (z := (⟨"com/example/subsumer/subsumer/Role", "inverse", "()Lcom/example/subsumer/subsumer/Role;"⟩ : MethodName)) hown34 (mvT hZ34 (w_48 hw)) (mvT hZ34 (w_49 hw)) (notFace_of_selects (args := #[]) (mvT hZ34 (w_51 hw))) (mvT hZ34 (w_51 hw)) (mvT hZ34 (w_50 hw)) (by decide) (backOf (W := 0) (rm_inv l Z a0 hw [] b_41 a_41 T41.heap n0 f46 q41_12) hZ34 (w_52 hw) (w_32 hw) (by decide) (by decide)) q58a q58c (g := (mkF mM 197 Ls57 [(.ref b_41)])) rfl (by rw [hml]; rfl) (Steps.refl _) (argsL := []) (rest := []) (lenOf pd_7 rfl) rfl (by show 2 * 0 + _ ≤ _; exact Nat.le_of_eq rfl) (hb hby at_197) (fun _ _ => ⟨rfl, Kq56, (by decide : 9 + 0 ≤ _), (by decide : 22 + 0 ≤ _)⟩)
    dsimp only [Pt.U, Pt.locs, Pt.cells, Pt.slots] at X58 l58 y58 z58 st58 hQ58
    subst l58 y58 z58
    obtain ⟨rfl, rfl, Kq58⟩ := hQ58
    try rw [List.append_nil] at X58
    let Ls59 : Array Slot := #[.val (.int p0), .val (.int p1), .val (.int p2), .val (.int p3), .val (.int p4), .val (.ref b1), .val (.ref b18), .val (.int (0 : Int32)), .val (.ref b26), .val (.int ((p3 + (1 : Int32)) + (p4 &&& (16383 : Int32)))), .val (.ref a_41), .val (.ref b_41), .val (.int (1 : Int32)), .unset, .unset, .unset]
    obtain ⟨cq60, kq60, q60a, q60b, q60c⟩ := isOf hZ34 Kq58 q41_3
    obtain ⟨_, _, ⟨T60, L60, k60, n60⟩, -, X60, ⟨Lc60, hQ60, l60, y60, z60⟩, st60⟩ := X58.virtualBack hx (y := (⟨"com/example/subsumer/subsumer/Role", "hashCode", "()I"⟩ : MethodName)) (z := (⟨"com/example/subsumer/subsumer/Role", "hashCode", "()I"⟩ : MethodName)) hown34 (mvT hZ34 (w_68 hw)) (mvT hZ34 (w_69 hw)) (notFace_of_selects (args := #[]) (mvT hZ34 (w_71 hw))) (mvT hZ34 (w_71 hw)) (mvT hZ34 (w_70 hw)) (by decide) (backOf (W := 0) (rm_hsh l Z a0 hw [] a_41 ((2 : Int32) * p3) T41.heap n0 f46 q41_7) hZ34 (w_72 hw) (w_32 hw) (by decide) (by decide)) q60a q60c (g := (mkF mM 214 Ls59 [(.ref a_41)])) rfl (by rw [hml]; rfl) (Steps.refl _) (argsL := []) (rest := []) (lenOf pd_11 rfl) rfl (by show 2 * 0 + _ ≤ _; exact Nat.le_of_eq rfl) (hb hby at_214) (fun _ _ => ⟨rfl, Kq58, (by decide : 9 + 0 ≤ _), (by decide : 22 + 0 ≤ _)⟩)
    dsimp only [Pt.U, Pt.locs, Pt.cells, Pt.slots] at X60 l60 y60 z60 st60 hQ60
    subst l60 y60 z60
    obtain ⟨rfl, rfl, Kq60⟩ := hQ60
    try rw [List.append_nil] at X60
    let Ls61 : Array Slot := #[.val (.int p0), .val (.int p1), .val (.int p2), .val (.int p3), .val (.int p4), .val (.ref b1), .val (.ref b18), .val (.int (0 : Int32)), .val (.ref b26), .val (.int ((p3 + (1 : Int32)) + (p4 &&& (16383 : Int32)))), .val (.ref a_41), .val (.ref b_41), .val (.int (1 : Int32)), .val (.int ((2 : Int32) * p3)), .unset, .unset]
    obtain ⟨cq62, kq62, q62a, q62b, q62c⟩ := isOf hZ34 Kq60 q41_4
    obtain ⟨_, _, ⟨T62, L62, k62, n62⟩, -, X62, ⟨Lc62, hQ62, l62, y62, z62⟩, st62⟩ := X60.virtualBack hx (y := (⟨"com/example/subsumer/subsumer/Role", "hashCode", "()I"⟩ : MethodName)) (z := (⟨"com/example/subsumer/subsumer/Role", "hashCode", "()I"⟩ : MethodName)) hown34 (mvT hZ34 (w_68 hw)) (mvT hZ34 (w_69 hw)) (notFace_of_selects (args := #[]) (mvT hZ34 (w_71 hw))) (mvT hZ34 (w_71 hw)) (mvT hZ34 (w_70 hw)) (by decide) (backOf (W := 0) (rm_hsh l Z a0 hw [] b_41 (((2 : Int32) * p3) + (1 : Int32)) T41.heap n0 f46 q41_8) hZ34 (w_72 hw) (w_32 hw) (by decide) (by decide)) q62a q62c (g := (mkF mM 221 Ls61 [(.ref b_41)])) rfl (by rw [hml]; rfl) (Steps.refl _) (argsL := []) (rest := []) (lenOf pd_11 rfl) rfl (by show 2 * 0 + _ ≤ _; exact Nat.le_of_eq rfl) (hb hby at_221) (fun _ _ => ⟨rfl, Kq60, (by decide : 9 + 0 ≤ _), (by decide : 22 + 0 ≤ _)⟩)
    dsimp only [Pt.U, Pt.locs, Pt.cells, Pt.slots] at X62 l62 y62 z62 st62 hQ62
    subst l62 y62 z62
    obtain ⟨rfl, rfl, Kq62⟩ := hQ62
    try rw [List.append_nil] at X62
    let Ls63 : Array Slot := #[.val (.int p0), .val (.int p1), .val (.int p2), .val (.int p3), .val (.int p4), .val (.ref b1), .val (.ref b18), .val (.int (0 : Int32)), .val (.ref b26), .val (.int ((p3 + (1 : Int32)) + (p4 &&& (16383 : Int32)))), .val (.ref a_41), .val (.ref b_41), .val (.int (1 : Int32)), .val (.int ((2 : Int32) * p3)), .val (.int (((2 : Int32) * p3) + (1 : Int32))), .unset]
    let Ls64 : Array Slot := #[.val (.int p0), .val (.int p1), .val (.int p2), .val (.int p3), .val (.int p4), .val (.ref b1), .val (.ref b18), .val (.int (0 : Int32)), .val (.ref b26), .val (.int ((p3 + (1 : Int32)) + (p4 &&& (16383 : Int32)))), .val (.ref a_41), .val (.ref b_41), .val (.int (1 : Int32)), .val (.int ((2 : Int32) * p3)), .val (.int (((2 : Int32) * p3) + (1 : Int32))), .unset]
    obtain ⟨_, _, ⟨T65, L65, k65, n65⟩, -, X65, ⟨Lc65, hQ65, l65, y65, z65⟩, st65⟩ := Jvm.LawKit.callS X62 hx (y := (⟨"com/example/subsumer/subsumer/Role", "property", "(Ljava/lang/String;I)Lcom/example/subsumer/subsumer/Role;"⟩ : MethodName)) hown34 (mvT hZ34 (w_30 hw)) (mvT hZ34 (w_31 hw)) (mvT hZ34 (w_32 hw)) (mvT hZ34 (w_33 hw)) (by decide) (backOf (W := 0) (rm_prop l Z a0 hw [] b26 ((p3 + (1 : Int32)) + (p4 &&& (16383 : Int32))) T41.heap n0 f46 ) hZ34 (w_33 hw) (w_32 hw) (by decide) (by decide)) (g := (mkF mM 258 Ls64 [(.int ((p3 + (1 : Int32)) + (p4 &&& (16383 : Int32)))), (.ref b26)])) rfl (by rw [hml]; rfl) (argsL := [(.ref b26), (.int ((p3 + (1 : Int32)) + (p4 &&& (16383 : Int32))))]) (rest := []) (lenOf pd_6 rfl) rfl (by show 2 * 0 + _ ≤ _; exact Nat.le_of_eq rfl) (hb hby at_258) (fun _ _ => ⟨rfl, Kq62, (by decide : 9 + 2 ≤ _), (by decide : 22 + 8 ≤ _)⟩)
    dsimp only [Pt.U, Pt.locs, Pt.cells, Pt.slots] at X65 l65 y65 z65 st65 hQ65
    subst l65 y65 z65
    obtain ⟨a_65, b_65, rfl, Nq65, Kq65, q65_0, q65_1, q65_2, q65_3, q65_4, q65_5, q65_6, q65_7, q65_8, q65_9, q65_10, q65_11, q65_12⟩ := hQ65
    have N65 := Fr.app N41 Nq65
    have g_a_65 : n0 ≤ a_65 := Nat.le_trans (own_osz f46) q65_0
    have sz_a_65 : h0.size ≤ a_65 := Nat.le_trans K44.1 q65_0
    have g_b_65 : n0 ≤ b_65 := Nat.le_trans (own_osz f46) q65_1
    have sz_b_65 : h0.size ≤ b_65 := Nat.le_trans K44.1 q65_1
    have CH66 : CHr Z own_EL sS.vm h0 T34.vm T65.heap := CH42.trans (CHr.keep Kq65 sf0 CH42.1)
    have hk67 := Nat.le_trans hk43 Kq65.1
    have K68 : Keep h0 T65.heap [] := K44.trans Kq65 all0
    let Ls69 : Array Slot := #[.val (.int p0), .val (.int p1), .val (.int p2), .val (.int p3), .val (.int p4), .val (.ref b1), .val (.ref b18), .val (.int (0 : Int32)), .val (.ref b26), .val (.int ((p3 + (1 : Int32)) + (p4 &&& (16383 : Int32)))), .val (.ref a_41), .val (.ref b_41), .val (.int (1 : Int32)), .val (.int ((2 : Int32) * p3)), .val (.int (((2 : Int32) * p3) + (1 : Int32))), .val (.ref a_65)]
    have f70 := (f46.keep Kq65 all0)
    obtain ⟨cq71, kq71, q71a, q71b, q71c⟩ := isOf hZ34 rfl q65_3
    obtain ⟨_, _, ⟨T71, L71, k71, n71⟩, -, X71, ⟨Lc71, hQ71, l71, y71, z71⟩, st71⟩ := X65.virtualBack hx (y := (⟨"com/example/subsumer/subsumer/Role", "hashCode", "()I"⟩ : MethodName)) (z := (⟨"com/example/subsumer/subsumer/Role", "hashCode", "()I"⟩ : MethodName)) hown34 (mvT hZ34 (w_68 hw)) (mvT hZ34 (w_69 hw)) (notFace_of_selects (args := #[]) (mvT hZ34 (w_71 hw))) (mvT hZ34 (w_71 hw)) (mvT hZ34 (w_70 hw)) (by decide) (backOf (W := 0) (rm_hsh l Z a0 hw [] a_65 ((2 : Int32) * ((p3 + (1 : Int32)) + (p4 &&& (16383 : Int32)))) T65.heap n0 f70 q65_7) hZ34 (w_72 hw) (w_32 hw) (by decide) (by decide)) q71a q71c (g := (mkF mM 277 Ls69 [(.ref a_65)])) rfl (by rw [hml]; rfl) (Steps.refl _) (argsL := []) (rest := []) (lenOf pd_11 rfl) rfl (by show 2 * 0 + _ ≤ _; exact Nat.le_of_eq rfl) (hb hby at_277) (fun _ _ => ⟨rfl, rfl, (by decide : 11 + 0 ≤ _), (by decide : 30 + 0 ≤ _)⟩)
    dsimp only [Pt.U, Pt.locs, Pt.cells, Pt.slots] at X71 l71 y71 z71 st71 hQ71
    subst l71 y71 z71
    obtain ⟨rfl, rfl, Kq71⟩ := hQ71
    try rw [List.append_nil] at X71
    let Ls72 : Array Slot := #[.val (.int p0), .val (.int p1), .val (.int p2), .val (.int p3), .val (.int p4), .val (.ref b1), .val (.ref b18), .val (.int (0 : Int32)), .val (.ref b26), .val (.int ((p3 + (1 : Int32)) + (p4 &&& (16383 : Int32)))), .val (.ref a_41), .val (.ref b_41), .val (.int (1 : Int32)), .val (.int ((2 : Int32) * p3)), .val (.int (((2 : Int32) * p3) + (1 : Int32))), .val (.ref a_65)]
    obtain ⟨fs, hr, hrun, hended, hR1, hR2, hR3, hR4⟩ := Stand.leaveW (s := sS) (vm₁ := T34.vm) X71 hS34 (by rw [Kq71]; exact hk67) (v := some (.int (1 : Int32))) (fun h => by rw [Bd.returns] at h; cases h)
    refine ⟨_, _, pre24 _ ?_, hrun, hended, _, _, rfl, ?_, ?_, hR1, hR2, hR3, hR4.mono (by decide) (by decide)⟩
    · refine XS.iloadN X18.here hx rfl (hb hby at_28) rfl ?_
      show Steps pP.tables eE below (T18.setTop (mkF mM 29 Ls23 [(.int p2)])) _
      refine XS.iconst X18.here hx rfl (hb hby at_29) ?_
      show Steps pP.tables eE below (T18.setTop (mkF mM 30 Ls23 [(.int (3 : Int32)), (.int p2)])) _
      refine XS.iand X18.here hx rfl (hb hby at_30) rfl ?_
      show Steps pP.tables eE below (T18.setTop (mkF mM 31 Ls23 [(.int (p2 &&& (3 : Int32)))])) _
      rw [hk]
      show Steps pP.tables eE below (T18.setTop (mkF mM 31 Ls23 [(.int (0 : Int32))])) _
      refine XS.istore X18.here hx rfl (hb hby at_31) rfl (l' := Ls25) rfl ?_
      show Steps pP.tables eE below (T18.setTop (mkF mM 33 Ls25 [])) _
      refine XS.iload X18.here hx rfl (hb hby at_33) rfl ?_
      show Steps pP.tables eE below (T18.setTop (mkF mM 35 Ls25 [(.int (0 : Int32))])) _
      refine XS.ifNo X18.here hx rfl (hb hby at_35) rfl ((if0 _ _).trans (teq (by decide : (0 : Int32) = (0 : Int32))).2) ?_
      show Steps pP.tables eE below (T18.setTop (mkF mM 38 Ls25 [])) _
      refine st26 _ ?_
      show Steps pP.tables eE below (T26.setTop (mkF mM 41 Ls25 [(.ref b26)])) _
      refine XS.dup X26.here hx rfl (hb hby at_41) rfl rfl ?_
      show Steps pP.tables eE below (T26.setTop (mkF mM 42 Ls25 [(.ref b26), (.ref b26)])) _
      refine XS.aload X26.here hx rfl (hb hby at_42) rfl rfl ?_
      show Steps pP.tables eE below (T26.setTop (mkF mM 44 Ls25 [(.ref b18), (.ref b26), (.ref b26)])) _
      refine st34.trans ?_
      show Steps pP.tables eE below (T34.setTop (mkF mM 47 Ls25 [(.ref b26)])) _
      refine XS.astore X34.here hx rfl (hb hby at_47) rfl rfl (l' := Ls38) rfl ?_
      show Steps pP.tables eE below (T34.setTop (mkF mM 49 Ls38 [])) _
      refine XS.goto X34.here hx rfl (pc0 := 49) (pc' := 81) rfl (hb hby at_49) (by decide) (by decide) ?_
      show Steps pP.tables eE below (T34.setTop (mkF mM 81 Ls38 [])) _
      refine XS.iloadN X34.here hx rfl (hb hby at_81) rfl ?_
      show Steps pP.tables eE below (T34.setTop (mkF mM 82 Ls38 [(.int p3)])) _
      refine XS.iconst X34.here hx rfl (hb hby at_82) ?_
      show Steps pP.tables eE below (T34.setTop (mkF mM 83 Ls38 [(.int (1 : Int32)), (.int p3)])) _
      refine XS.iadd X34.here hx rfl (hb hby at_83) rfl ?_
      show Steps pP.tables eE below (T34.setTop (mkF mM 84 Ls38 [(.int (p3 + (1 : Int32)))])) _
      refine XS.iload X34.here hx rfl (hb hby at_84) rfl ?_
      show Steps pP.tables eE below (T34.setTop (mkF mM 86 Ls38 [(.int p4), (.int (p3 + (1 : Int32)))])) _
      refine XS.sipush X34.here hx rfl (hb hby at_86) ?_
      show Steps pP.tables eE below (T34.setTop (mkF mM 89 Ls38 [(.int (16383 : Int32)), (.int p4), (.int (p3 + (1 : Int32)))])) _
      refine XS.iand X34.here hx rfl (hb hby at_89) rfl ?_
      show Steps pP.tables eE below (T34.setTop (mkF mM 90 Ls38 [(.int (p4 &&& (16383 : Int32))), (.int (p3 + (1 : Int32)))])) _
      refine XS.iadd X34.here hx rfl (hb hby at_90) rfl ?_
      show Steps pP.tables eE below (T34.setTop (mkF mM 91 Ls38 [(.int ((p3 + (1 : Int32)) + (p4 &&& (16383 : Int32))))])) _
      refine XS.istore X34.here hx rfl (hb hby at_91) rfl (l' := Ls39) rfl ?_
      show Steps pP.tables eE below (T34.setTop (mkF mM 93 Ls39 [])) _
      refine XS.aload X34.here hx rfl (hb hby at_93) rfl rfl ?_
      show Steps pP.tables eE below (T34.setTop (mkF mM 95 Ls39 [(.ref b26)])) _
      refine XS.iloadN X34.here hx rfl (hb hby at_95) rfl ?_
      show Steps pP.tables eE below (T34.setTop (mkF mM 96 Ls39 [(.int p3), (.ref b26)])) _
      refine st41 _ ?_
      show Steps pP.tables eE below (T41.setTop (mkF mM 99 Ls39 [(.ref a_41)])) _
      refine XS.astore X41.here hx rfl (hb hby at_99) rfl rfl (l' := Ls45) rfl ?_
      show Steps pP.tables eE below (T41.setTop (mkF mM 101 Ls45 [])) _
      refine XS.aload X41.here hx rfl (hb hby at_101) rfl rfl ?_
      show Steps pP.tables eE below (T41.setTop (mkF mM 103 Ls45 [(.ref a_41)])) _
      refine XS.ifnonnullYes X41.here hx rfl (pc0 := 103) (pc' := 108) rfl (hb hby at_103) rfl (by decide) (by decide) ?_
      show Steps pP.tables eE below (T41.setTop (mkF mM 108 Ls45 [])) _
      refine XS.aload X41.here hx rfl (hb hby at_108) rfl rfl ?_
      show Steps pP.tables eE below (T41.setTop (mkF mM 110 Ls45 [(.ref a_41)])) _
      refine st47.trans ?_
      show Steps pP.tables eE below (T47.setTop (mkF mM 113 Ls45 [(.ref b_41)])) _
      refine XS.astore X47.here hx rfl (hb hby at_113) rfl rfl (l' := Ls48) rfl ?_
      show Steps pP.tables eE below (T47.setTop (mkF mM 115 Ls48 [])) _
      refine XS.aload X47.here hx rfl (hb hby at_115) rfl rfl ?_
      show Steps pP.tables eE below (T47.setTop (mkF mM 117 Ls48 [(.ref b_41)])) _
      refine XS.ifnullNo X47.here hx rfl (hb hby at_117) rfl ?_
      show Steps pP.tables eE below (T47.setTop (mkF mM 120 Ls48 [])) _
      refine XS.aload X47.here hx rfl (hb hby at_120) rfl rfl ?_
      show Steps pP.tables eE below (T47.setTop (mkF mM 122 Ls48 [(.ref b_41)])) _
      refine XS.aload X47.here hx rfl (hb hby at_122) rfl rfl ?_
      show Steps pP.tables eE below (T47.setTop (mkF mM 124 Ls48 [(.ref a_41), (.ref b_41)])) _
      refine Jvm.RoadKit.acmp (g := (mkF mM 124 Ls48 [(.ref a_41), (.ref b_41)])) X47 hx rfl rfl rfl (pc0 := 124) (pc' := 129) (same := false) rfl (hb hby at_124) rfl (decide_eq_false fun q => (Ne.symm q41_2) (Value.ref.inj q)) (by decide) (by decide) ?_
      show Steps pP.tables eE below (T47.setTop (mkF mM 129 Ls48 [])) _
      refine XS.aload X47.here hx rfl (hb hby at_129) rfl rfl ?_
      show Steps pP.tables eE below (T47.setTop (mkF mM 131 Ls48 [(.ref b26)])) _
      refine XS.aload X47.here hx rfl (hb hby at_131) rfl rfl ?_
      show Steps pP.tables eE below (T47.setTop (mkF mM 133 Ls48 [(.ref a_41), (.ref b26)])) _
      refine st49.trans ?_
      show Steps pP.tables eE below (T49.setTop (mkF mM 136 Ls48 [(.ref b26), (.ref b26)])) _
      refine st50.trans ?_
      show Steps pP.tables eE below (T50.setTop (mkF mM 139 Ls48 [(.int (1 : Int32))])) _
      refine XS.ifNo X50.here hx rfl (hb hby at_139) rfl ((if0 _ _).trans (feq (by decide : ¬ ((1 : Int32) = (0 : Int32)))).1) ?_
      show Steps pP.tables eE below (T50.setTop (mkF mM 142 Ls48 [])) _
      refine XS.aload X50.here hx rfl (hb hby at_142) rfl rfl ?_
      show Steps pP.tables eE below (T50.setTop (mkF mM 144 Ls48 [(.ref b26)])) _
      refine XS.aload X50.here hx rfl (hb hby at_144) rfl rfl ?_
      show Steps pP.tables eE below (T50.setTop (mkF mM 146 Ls48 [(.ref b_41), (.ref b26)])) _
      refine st52.trans ?_
      show Steps pP.tables eE below (T52.setTop (mkF mM 149 Ls48 [(.ref b26), (.ref b26)])) _
      refine st53.trans ?_
      show Steps pP.tables eE below (T53.setTop (mkF mM 152 Ls48 [(.int (1 : Int32))])) _
      refine XS.ifNo X53.here hx rfl (hb hby at_152) rfl ((if0 _ _).trans (feq (by decide : ¬ ((1 : Int32) = (0 : Int32)))).1) ?_
      show Steps pP.tables eE below (T53.setTop (mkF mM 155 Ls48 [])) _
      refine XS.iconst X53.here hx rfl (hb hby at_155) ?_
      show Steps pP.tables eE below (T53.setTop (mkF mM 156 Ls48 [(.int (1 : Int32))])) _
      refine XS.goto X53.here hx rfl (pc0 := 156) (pc' := 160) rfl (hb hby at_156) (by decide) (by decide) ?_
      show Steps pP.tables eE below (T53.setTop (mkF mM 160 Ls48 [(.int (1 : Int32))])) _
      refine XS.istore X53.here hx rfl (hb hby at_160) rfl (l' := Ls54) rfl ?_
      show Steps pP.tables eE below (T53.setTop (mkF mM 162 Ls54 [])) _
      refine XS.iload X53.here hx rfl (hb hby at_162) rfl ?_
      show Steps pP.tables eE below (T53.setTop (mkF mM 164 Ls54 [(.int (1 : Int32))])) _
      refine XS.ifNo X53.here hx rfl (hb hby at_164) rfl ((if0 _ _).trans (feq (by decide : ¬ ((1 : Int32) = (0 : Int32)))).1) ?_
      show Steps pP.tables eE below (T53.setTop (mkF mM 167 Ls54 [])) _
      refine XS.aload X53.here hx rfl (hb hby at_167) rfl rfl ?_
      show Steps pP.tables eE below (T53.setTop (mkF mM 169 Ls54 [(.ref a_41)])) _
      refine st55.trans ?_
      show Steps pP.tables eE below (T55.setTop (mkF mM 172 Ls54 [(.int (0 : Int32))])) _
      refine XS.ifNo X55.here hx rfl (hb hby at_172) rfl ((if0 _ _).trans (teq (by decide : (0 : Int32) = (0 : Int32))).2) ?_
      show Steps pP.tables eE below (T55.setTop (mkF mM 175 Ls54 [])) _
      refine XS.aload X55.here hx rfl (hb hby at_175) rfl rfl ?_
      show Steps pP.tables eE below (T55.setTop (mkF mM 177 Ls54 [(.ref b_41)])) _
      refine st56.trans ?_
      show Steps pP.tables eE below (T56.setTop (mkF mM 180 Ls54 [(.int (1 : Int32))])) _
      refine XS.ifNo X56.here hx rfl (hb hby at_180) rfl ((if0 _ _).trans (feq (by decide : ¬ ((1 : Int32) = (0 : Int32)))).1) ?_
      show Steps pP.tables eE below (T56.setTop (mkF mM 183 Ls54 [])) _
      refine XS.iconst X56.here hx rfl (hb hby at_183) ?_
      show Steps pP.tables eE below (T56.setTop (mkF mM 184 Ls54 [(.int (1 : Int32))])) _
      refine XS.goto X56.here hx rfl (pc0 := 184) (pc' := 188) rfl (hb hby at_184) (by decide) (by decide) ?_
      show Steps pP.tables eE below (T56.setTop (mkF mM 188 Ls54 [(.int (1 : Int32))])) _
      refine XS.istore X56.here hx rfl (hb hby at_188) rfl (l' := Ls57) rfl ?_
      show Steps pP.tables eE below (T56.setTop (mkF mM 190 Ls57 [])) _
      refine XS.iload X56.here hx rfl (hb hby at_190) rfl ?_
      show Steps pP.tables eE below (T56.setTop (mkF mM 192 Ls57 [(.int (1 : Int32))])) _
      refine XS.ifNo X56.here hx rfl (hb hby at_192) rfl ((if0 _ _).trans (feq (by decide : ¬ ((1 : Int32) = (0 : Int32)))).1) ?_
      show Steps pP.tables eE below (T56.setTop (mkF mM 195 Ls57 [])) _
      refine XS.aload X56.here hx rfl (hb hby at_195) rfl rfl ?_
      show Steps pP.tables eE below (T56.setTop (mkF mM 197 Ls57 [(.ref b_41)])) _
      refine st58.trans ?_
      show Steps pP.tables eE below (T58.setTop (mkF mM 200 Ls57 [(.ref a_41)])) _
      refine XS.aload X58.here hx rfl (hb hby at_200) rfl rfl ?_
      show Steps pP.tables eE below (T58.setTop (mkF mM 202 Ls57 [(.ref a_41), (.ref a_41)])) _
      refine Jvm.RoadKit.acmp (g := (mkF mM 202 Ls57 [(.ref a_41), (.ref a_41)])) X58 hx rfl rfl rfl (pc0 := 202) (pc' := 205) (same := true) rfl (hb hby at_202) rfl (decide_eq_true rfl) (by decide) (by decide) ?_
      show Steps pP.tables eE below (T58.setTop (mkF mM 205 Ls57 [])) _
      refine XS.iconst X58.here hx rfl (hb hby at_205) ?_
      show Steps pP.tables eE below (T58.setTop (mkF mM 206 Ls57 [(.int (1 : Int32))])) _
      refine XS.goto X58.here hx rfl (pc0 := 206) (pc' := 210) rfl (hb hby at_206) (by decide) (by decide) ?_
      show Steps pP.tables eE below (T58.setTop (mkF mM 210 Ls57 [(.int (1 : Int32))])) _
      refine XS.istore X58.here hx rfl (hb hby at_210) rfl (l' := Ls59) rfl ?_
      show Steps pP.tables eE below (T58.setTop (mkF mM 212 Ls59 [])) _
      refine XS.aload X58.here hx rfl (hb hby at_212) rfl rfl ?_
      show Steps pP.tables eE below (T58.setTop (mkF mM 214 Ls59 [(.ref a_41)])) _
      refine st60.trans ?_
      show Steps pP.tables eE below (T60.setTop (mkF mM 217 Ls59 [(.int ((2 : Int32) * p3))])) _
      refine XS.istore X60.here hx rfl (hb hby at_217) rfl (l' := Ls61) rfl ?_
      show Steps pP.tables eE below (T60.setTop (mkF mM 219 Ls61 [])) _
      refine XS.aload X60.here hx rfl (hb hby at_219) rfl rfl ?_
      show Steps pP.tables eE below (T60.setTop (mkF mM 221 Ls61 [(.ref b_41)])) _
      refine st62.trans ?_
      show Steps pP.tables eE below (T62.setTop (mkF mM 224 Ls61 [(.int (((2 : Int32) * p3) + (1 : Int32)))])) _
      refine XS.istore X62.here hx rfl (hb hby at_224) rfl (l' := Ls63) rfl ?_
      show Steps pP.tables eE below (T62.setTop (mkF mM 226 Ls63 [])) _
      refine XS.iload X62.here hx rfl (hb hby at_226) rfl ?_
      show Steps pP.tables eE below (T62.setTop (mkF mM 228 Ls63 [(.int (1 : Int32))])) _
      refine XS.ifNo X62.here hx rfl (hb hby at_228) rfl ((if0 _ _).trans (feq (by decide : ¬ ((1 : Int32) = (0 : Int32)))).1) ?_
      show Steps pP.tables eE below (T62.setTop (mkF mM 231 Ls63 [])) _
      refine XS.iload X62.here hx rfl (hb hby at_231) rfl ?_
      show Steps pP.tables eE below (T62.setTop (mkF mM 233 Ls63 [(.int ((2 : Int32) * p3))])) _
      refine XS.iconst X62.here hx rfl (hb hby at_233) ?_
      show Steps pP.tables eE below (T62.setTop (mkF mM 234 Ls63 [(.int (1 : Int32)), (.int ((2 : Int32) * p3))])) _
      refine XS.iand X62.here hx rfl (hb hby at_234) rfl ?_
      show Steps pP.tables eE below (T62.setTop (mkF mM 235 Ls63 [(.int (((2 : Int32) * p3) &&& (1 : Int32)))])) _
      refine XS.ifNo X62.here hx rfl (hb hby at_235) rfl ((if0 _ _).trans (teq (own_even p3)).2) ?_
      show Steps pP.tables eE below (T62.setTop (mkF mM 238 Ls63 [])) _
      refine XS.iload X62.here hx rfl (hb hby at_238) rfl ?_
      show Steps pP.tables eE below (T62.setTop (mkF mM 240 Ls63 [(.int (((2 : Int32) * p3) + (1 : Int32)))])) _
      refine XS.iload X62.here hx rfl (hb hby at_240) rfl ?_
      show Steps pP.tables eE below (T62.setTop (mkF mM 242 Ls63 [(.int ((2 : Int32) * p3)), (.int (((2 : Int32) * p3) + (1 : Int32)))])) _
      refine XS.iconst X62.here hx rfl (hb hby at_242) ?_
      show Steps pP.tables eE below (T62.setTop (mkF mM 243 Ls63 [(.int (1 : Int32)), (.int ((2 : Int32) * p3)), (.int (((2 : Int32) * p3) + (1 : Int32)))])) _
      refine XS.iadd X62.here hx rfl (hb hby at_243) rfl ?_
      show Steps pP.tables eE below (T62.setTop (mkF mM 244 Ls63 [(.int (((2 : Int32) * p3) + (1 : Int32))), (.int (((2 : Int32) * p3) + (1 : Int32)))])) _
      refine XS.icmpNo X62.here hx rfl (hb hby at_244) rfl (teq (rfl : (((2 : Int32) * p3) + (1 : Int32)) = (((2 : Int32) * p3) + (1 : Int32)))).2 ?_
      show Steps pP.tables eE below (T62.setTop (mkF mM 247 Ls63 [])) _
      refine XS.iconst X62.here hx rfl (hb hby at_247) ?_
      show Steps pP.tables eE below (T62.setTop (mkF mM 248 Ls63 [(.int (1 : Int32))])) _
      refine XS.goto X62.here hx rfl (pc0 := 248) (pc' := 252) rfl (hb hby at_248) (by decide) (by decide) ?_
      show Steps pP.tables eE below (T62.setTop (mkF mM 252 Ls63 [(.int (1 : Int32))])) _
      refine XS.istore X62.here hx rfl (hb hby at_252) rfl (l' := Ls64) rfl ?_
      show Steps pP.tables eE below (T62.setTop (mkF mM 254 Ls64 [])) _
      refine XS.aload X62.here hx rfl (hb hby at_254) rfl rfl ?_
      show Steps pP.tables eE below (T62.setTop (mkF mM 256 Ls64 [(.ref b26)])) _
      refine XS.iload X62.here hx rfl (hb hby at_256) rfl ?_
      show Steps pP.tables eE below (T62.setTop (mkF mM 258 Ls64 [(.int ((p3 + (1 : Int32)) + (p4 &&& (16383 : Int32)))), (.ref b26)])) _
      refine st65 _ ?_
      show Steps pP.tables eE below (T65.setTop (mkF mM 261 Ls64 [(.ref a_65)])) _
      refine XS.astore X65.here hx rfl (hb hby at_261) rfl rfl (l' := Ls69) rfl ?_
      show Steps pP.tables eE below (T65.setTop (mkF mM 263 Ls69 [])) _
      refine XS.iload X65.here hx rfl (hb hby at_263) rfl ?_
      show Steps pP.tables eE below (T65.setTop (mkF mM 265 Ls69 [(.int (1 : Int32))])) _
      refine XS.ifNo X65.here hx rfl (hb hby at_265) rfl ((if0 _ _).trans (feq (by decide : ¬ ((1 : Int32) = (0 : Int32)))).1) ?_
      show Steps pP.tables eE below (T65.setTop (mkF mM 268 Ls69 [])) _
      refine XS.aload X65.here hx rfl (hb hby at_268) rfl rfl ?_
      show Steps pP.tables eE below (T65.setTop (mkF mM 270 Ls69 [(.ref a_65)])) _
      refine XS.aload X65.here hx rfl (hb hby at_270) rfl rfl ?_
      show Steps pP.tables eE below (T65.setTop (mkF mM 272 Ls69 [(.ref a_41), (.ref a_65)])) _
      refine Jvm.RoadKit.acmp (g := (mkF mM 272 Ls69 [(.ref a_41), (.ref a_65)])) X65 hx rfl rfl rfl (pc0 := 272) (pc' := 275) (same := false) rfl (hb hby at_272) rfl (decide_eq_false fun q => (Ne.symm (Nat.ne_of_lt (Nat.lt_of_lt_of_le (q41_3).lt q65_0))) (Value.ref.inj q)) (by decide) (by decide) ?_
      show Steps pP.tables eE below (T65.setTop (mkF mM 275 Ls69 [])) _
      refine XS.aload X65.here hx rfl (hb hby at_275) rfl rfl ?_
      show Steps pP.tables eE below (T65.setTop (mkF mM 277 Ls69 [(.ref a_65)])) _
      refine st71.trans ?_
      show Steps pP.tables eE below (T71.setTop (mkF mM 280 Ls69 [(.int ((2 : Int32) * ((p3 + (1 : Int32)) + (p4 &&& (16383 : Int32)))))])) _
      refine XS.iload X71.here hx rfl (hb hby at_280) rfl ?_
      show Steps pP.tables eE below (T71.setTop (mkF mM 282 Ls69 [(.int ((2 : Int32) * p3)), (.int ((2 : Int32) * ((p3 + (1 : Int32)) + (p4 &&& (16383 : Int32)))))])) _
      refine XS.icmpNo X71.here hx rfl (hb hby at_282) rfl (feq (own_dif p3 p4)).1 ?_
      show Steps pP.tables eE below (T71.setTop (mkF mM 285 Ls69 [])) _
      refine XS.iconst X71.here hx rfl (hb hby at_285) ?_
      show Steps pP.tables eE below (T71.setTop (mkF mM 286 Ls69 [(.int (1 : Int32))])) _
      refine XS.goto X71.here hx rfl (pc0 := 286) (pc' := 290) rfl (hb hby at_286) (by decide) (by decide) ?_
      show Steps pP.tables eE below (T71.setTop (mkF mM 290 Ls69 [(.int (1 : Int32))])) _
      refine XS.istore X71.here hx rfl (hb hby at_290) rfl (l' := Ls72) rfl ?_
      show Steps pP.tables eE below (T71.setTop (mkF mM 292 Ls72 [])) _
      refine XS.iload X71.here hx rfl (hb hby at_292) rfl ?_
      show Steps pP.tables eE below (T71.setTop (mkF mM 294 Ls72 [(.int (1 : Int32))])) _
      exact retN X71 hx (t := .boolean) Bd.returns (by simp) (hb hby at_294) hr
    · show Q_law Z p0 p1 p2 p3 p4 zc fm h0 n0 _ T71.heap _
      rw [Kq71]
      exact ⟨rfl, N65, K68⟩
    · show CHr Z own_EL sS.vm sS.heap T71.vm T71.heap
      rw [hh, Kq71]
      exact CH66.trans (CHv.at X71 hZ34 hEL CH66.1)
  · let Ls74 : Array Slot := #[.val (.int p0), .val (.int p1), .val (.int p2), .val (.int p3), .val (.int p4), .val (.ref b1), .val (.ref b18), .val (.int (1 : Int32)), .unset, .unset, .unset, .unset, .unset, .unset, .unset, .unset]
    have f76 := (V11.ext E18)
    obtain ⟨cl75, Ar75, -, S75, Nn75, Hh75, -⟩ := id f76
    have hin75 : ¬ ((0 : Int32) < 0 ∨ cl75.slots.size ≤ ((0 : Int32)).toNatClampNeg) := inb_of S75 ⟨by decide, by decide⟩
    have hat75 : cl75.slots[((0 : Int32)).toNatClampNeg]? = some (.int (p0 &&& (255 : Int32))) := Hh75.at hin75 rfl
    have f77 := (f19.ext E18)
    obtain ⟨_, _, ⟨T78, L78, k78, n78⟩, -, X78, ⟨Lc78, hQ78, l78, y78, z78⟩, st78⟩ := Jvm.LawKit.callS X18 hx (y := (⟨"java/lang/String", "valueOf", "(C)Ljava/lang/String;"⟩ : MethodName)) hown0 (mvT hZ0 (w_73 hw)) (mvT hZ0 (w_74 hw)) (mvT hZ0 (w_3 hw)) (mvT hZ0 (w_75 hw)) (by decide) (backOf (W := 0) (rm_vof l Z a0 hw [] (p0 &&& (255 : Int32)) zc h18 n0 f77 (own_c255 p0 : ¬ (p0 &&& (255 : Int32)) < 0 ∧ ¬ (255 : Int32) < (p0 &&& (255 : Int32))) S_COMPACT_STRINGS hp1) hZ0 (w_75 hw) (w_3 hw) (by decide) (by decide)) (g := (mkF mM 62 Ls74 [(.int (p0 &&& (255 : Int32)))])) rfl (by rw [hml]; rfl) (argsL := [(.int (p0 &&& (255 : Int32)))]) (rest := []) (lenOf pd_12 rfl) rfl (by show 2 * 0 + _ ≤ _; exact Nat.le_of_eq rfl) (hb hby at_62) (fun _ _ => ⟨rfl, e18, (by decide : 2 + 2 ≤ _), (by decide : 2 + 5 ≤ _)⟩)
    dsimp only [Pt.U, Pt.locs, Pt.cells, Pt.slots] at X78 l78 y78 z78 st78 hQ78
    subst l78 y78 z78
    obtain ⟨b_78, t_78, k_78, rfl, Nq78, Kq78, q78_0, q78_1, q78_2⟩ := hQ78
    have N78 := Fr.app N11 Nq78
    have g_b_78 : n0 ≤ b_78 := Nat.le_trans (own_osz f77) q78_0
    have sz_b_78 : h0.size ≤ b_78 := Nat.le_trans K22.1 q78_0
    have g_t_78 : n0 ≤ t_78 := Nat.le_trans (own_osz f77) q78_1
    have sz_t_78 : h0.size ≤ t_78 := Nat.le_trans K22.1 q78_1
    have CH79 : CHr Z own_EL sS.vm h0 sS.vm T78.heap := CH20.trans (CHr.keep Kq78 sf0 CH20.1)
    have hk80 := Nat.le_trans hk21 Kq78.1
    have K81 : Keep h0 T78.heap [] := K22.trans Kq78 all0
    let Ls82 : Array Slot := #[.val (.int p0), .val (.int p1), .val (.int p2), .val (.int p3), .val (.int p4), .val (.ref b1), .val (.ref b18), .val (.int (1 : Int32)), .val (.ref b_78), .unset, .unset, .unset, .unset, .unset, .unset, .unset]
    let Ls83 : Array Slot := #[.val (.int p0), .val (.int p1), .val (.int p2), .val (.int p3), .val (.int p4), .val (.ref b1), .val (.ref b18), .val (.int (1 : Int32)), .val (.ref b_78), .val (.int ((p3 + (1 : Int32)) + (p4 &&& (16383 : Int32)))), .unset, .unset, .unset, .unset, .unset, .unset]
    have f84 := (f77.keep Kq78 all0)
    obtain ⟨_, _, ⟨T85, L85, k85, n85⟩, -, X85, ⟨Lc85, hQ85, l85, y85, z85⟩, st85⟩ := Jvm.LawKit.callS X78 hx (y := (⟨"com/example/subsumer/subsumer/Role", "property", "(Ljava/lang/String;I)Lcom/example/subsumer/subsumer/Role;"⟩ : MethodName)) hown0 (mvT hZ0 (w_30 hw)) (mvT hZ0 (w_31 hw)) (mvT hZ0 (w_32 hw)) (mvT hZ0 (w_33 hw)) (by decide) (backOf (W := 0) (rm_prop l Z a0 hw [] b_78 p3 T78.heap n0 f84 ) hZ0 (w_33 hw) (w_32 hw) (by decide) (by decide)) (g := (mkF mM 96 Ls83 [(.int p3), (.ref b_78)])) rfl (by rw [hml]; rfl) (argsL := [(.ref b_78), (.int p3)]) (rest := []) (lenOf pd_6 rfl) rfl (by show 2 * 0 + _ ≤ _; exact Nat.le_of_eq rfl) (hb hby at_96) (fun _ _ => ⟨rfl, rfl, (by decide : 4 + 2 ≤ _), (by decide : 7 + 8 ≤ _)⟩)
    dsimp only [Pt.U, Pt.locs, Pt.cells, Pt.slots] at X85 l85 y85 z85 st85 hQ85
    subst l85 y85 z85
    obtain ⟨a_85, b_85, rfl, Nq85, Kq85, q85_0, q85_1, q85_2, q85_3, q85_4, q85_5, q85_6, q85_7, q85_8, q85_9, q85_10, q85_11, q85_12⟩ := hQ85
    have N85 := Fr.app N78 Nq85
    have g_a_85 : n0 ≤ a_85 := Nat.le_trans (own_osz f84) q85_0
    have sz_a_85 : h0.size ≤ a_85 := Nat.le_trans K81.1 q85_0
    have g_b_85 : n0 ≤ b_85 := Nat.le_trans (own_osz f84) q85_1
    have sz_b_85 : h0.size ≤ b_85 := Nat.le_trans K81.1 q85_1
    have CH86 : CHr Z own_EL sS.vm h0 sS.vm T85.heap := CH79.trans (CHr.keep Kq85 sf0 CH79.1)
    have hk87 := Nat.le_trans hk80 Kq85.1
    have K88 : Keep h0 T85.heap [] := K81.trans Kq85 all0
    let Ls89 : Array Slot := #[.val (.int p0), .val (.int p1), .val (.int p2), .val (.int p3), .val (.int p4), .val (.ref b1), .val (.ref b18), .val (.int (1 : Int32)), .val (.ref b_78), .val (.int ((p3 + (1 : Int32)) + (p4 &&& (16383 : Int32)))), .val (.ref a_85), .unset, .unset, .unset, .unset, .unset]
    have f90 := (f84.keep Kq85 all0)
    obtain ⟨cq91, kq91, q91a, q91b, q91c⟩ := isOf hZ0 rfl q85_3
    obtain ⟨_, _, ⟨T91, L91, k91, n91⟩, -, X91, ⟨Lc91, hQ91, l91, y91, z91⟩, st91⟩ := X85.virtualBack hx (y := (⟨"com/example/subsumer/subsumer/Role", "inverse", "()Lcom/example/subsumer/subsumer/Role;"⟩ : MethodName)) (z := (⟨"com/example/subsumer/subsumer/Role", "inverse", "()Lcom/example/subsumer/subsumer/Role;"⟩ : MethodName)) hown0 (mvT hZ0 (w_48 hw)) (mvT hZ0 (w_49 hw)) (notFace_of_selects (args := #[]) (mvT hZ0 (w_51 hw))) (mvT hZ0 (w_51 hw)) (mvT hZ0 (w_50 hw)) (by decide) (backOf (W := 0) (rm_inv l Z a0 hw [] a_85 b_85 T85.heap n0 f90 q85_11) hZ0 (w_52 hw) (w_32 hw) (by decide) (by decide)) q91a q91c (g := (mkF mM 110 Ls89 [(.ref a_85)])) rfl (by rw [hml]; rfl) (Steps.refl _) (argsL := []) (rest := []) (lenOf pd_7 rfl) rfl (by show 2 * 0 + _ ≤ _; exact Nat.le_of_eq rfl) (hb hby at_110) (fun _ _ => ⟨rfl, rfl, (by decide : 6 + 0 ≤ _), (by decide : 15 + 0 ≤ _)⟩)
    dsimp only [Pt.U, Pt.locs, Pt.cells, Pt.slots] at X91 l91 y91 z91 st91 hQ91
    subst l91 y91 z91
    obtain ⟨rfl, rfl, Kq91⟩ := hQ91
    try rw [List.append_nil] at X91
    let Ls92 : Array Slot := #[.val (.int p0), .val (.int p1), .val (.int p2), .val (.int p3), .val (.int p4), .val (.ref b1), .val (.ref b18), .val (.int (1 : Int32)), .val (.ref b_78), .val (.int ((p3 + (1 : Int32)) + (p4 &&& (16383 : Int32)))), .val (.ref a_85), .val (.ref b_85), .unset, .unset, .unset, .unset]
    obtain ⟨cq93, kq93, q93a, q93b, q93c⟩ := isOf hZ0 Kq91 q85_3
    obtain ⟨_, _, ⟨T93, L93, k93, n93⟩, -, X93, ⟨Lc93, hQ93, l93, y93, z93⟩, st93⟩ := X91.virtualBack hx (y := (⟨"com/example/subsumer/subsumer/Role", "iri", "()Ljava/lang/String;"⟩ : MethodName)) (z := (⟨"com/example/subsumer/subsumer/Role", "iri", "()Ljava/lang/String;"⟩ : MethodName)) hown0 (mvT hZ0 (w_53 hw)) (mvT hZ0 (w_54 hw)) (notFace_of_selects (args := #[]) (mvT hZ0 (w_56 hw))) (mvT hZ0 (w_56 hw)) (mvT hZ0 (w_55 hw)) (by decide) (backOf (W := 1) (rm_iri l Z a0 hw [] a_85 b_78 T85.heap n0 f90 q85_5) hZ0 (w_57 hw) (w_32 hw) (by decide) (by decide)) q93a q93c (g := (mkF mM 133 Ls92 [(.ref a_85), (.ref b_78)])) rfl (by rw [hml]; rfl) (Steps.refl _) (argsL := []) (rest := [(.ref b_78)]) (lenOf pd_8 rfl) rfl (by show 2 * 0 + _ ≤ _; exact Nat.le_of_eq rfl) (hb hby at_133) (fun _ _ => ⟨rfl, Kq91, (by decide : 6 + 0 ≤ _), (by decide : 15 + 0 ≤ _)⟩)
    dsimp only [Pt.U, Pt.locs, Pt.cells, Pt.slots] at X93 l93 y93 z93 st93 hQ93
    subst l93 y93 z93
    obtain ⟨rfl, rfl, Kq93⟩ := hQ93
    try rw [List.append_nil] at X93
    have f95 := ((q78_2).1.keep Kq85)
    obtain ⟨cq94, kq94, q94a, q94b, q94c⟩ := isOf hZ0 Kq93 f95
    obtain ⟨_, _, ⟨T94, L94, k94, n94⟩, -, X94, ⟨Lc94, hQ94, l94, y94, z94⟩, st94⟩ := X93.virtualBack hx (y := (⟨"java/lang/String", "equals", "(Ljava/lang/Object;)Z"⟩ : MethodName)) (z := (⟨"java/lang/String", "equals", "(Ljava/lang/Object;)Z"⟩ : MethodName)) hown0 (mvT hZ0 (w_58 hw)) (mvT hZ0 (w_59 hw)) (notFace_of_selects (args := #[]) (mvT hZ0 (w_61 hw))) (mvT hZ0 (w_61 hw)) (mvT hZ0 (w_60 hw)) (by decide) (backOf (W := 0) (rm_seqs l Z a0 hw [] b_78 T85.heap n0 f90 ) hZ0 (w_62 hw) (w_3 hw) (by decide) (by decide)) q94a q94c (g := (mkF mM 136 Ls92 [(.ref b_78), (.ref b_78)])) rfl (by rw [hml]; rfl) (Steps.refl _) (argsL := [(.ref b_78)]) (rest := []) (lenOf pd_9 rfl) rfl (by show 2 * 0 + _ ≤ _; exact Nat.le_of_eq rfl) (hb hby at_136) (fun _ _ => ⟨rfl, Kq93, (by decide : 6 + 0 ≤ _), (by decide : 15 + 0 ≤ _)⟩)
    dsimp only [Pt.U, Pt.locs, Pt.cells, Pt.slots] at X94 l94 y94 z94 st94 hQ94
    subst l94 y94 z94
    obtain ⟨rfl, rfl, Kq94⟩ := hQ94
    try rw [List.append_nil] at X94
    obtain ⟨cq96, kq96, q96a, q96b, q96c⟩ := isOf hZ0 Kq94 q85_4
    obtain ⟨_, _, ⟨T96, L96, k96, n96⟩, -, X96, ⟨Lc96, hQ96, l96, y96, z96⟩, st96⟩ := X94.virtualBack hx (y := (⟨"com/example/subsumer/subsumer/Role", "iri", "()Ljava/lang/String;"⟩ : MethodName)) (z := (⟨"com/example/subsumer/subsumer/Role", "iri", "()Ljava/lang/String;"⟩ : MethodName)) hown0 (mvT hZ0 (w_53 hw)) (mvT hZ0 (w_54 hw)) (notFace_of_selects (args := #[]) (mvT hZ0 (w_56 hw))) (mvT hZ0 (w_56 hw)) (mvT hZ0 (w_55 hw)) (by decide) (backOf (W := 1) (rm_iri l Z a0 hw [] b_85 b_78 T85.heap n0 f90 q85_6) hZ0 (w_57 hw) (w_32 hw) (by decide) (by decide)) q96a q96c (g := (mkF mM 146 Ls92 [(.ref b_85), (.ref b_78)])) rfl (by rw [hml]; rfl) (Steps.refl _) (argsL := []) (rest := [(.ref b_78)]) (lenOf pd_8 rfl) rfl (by show 2 * 0 + _ ≤ _; exact Nat.le_of_eq rfl) (hb hby at_146) (fun _ _ => ⟨rfl, Kq94, (by decide : 6 + 0 ≤ _), (by decide : 15 + 0 ≤ _)⟩)
    dsimp only [Pt.U, Pt.locs, Pt.cells, Pt.slots] at X96 l96 y96 z96 st96 hQ96
    subst l96 y96 z96
    obtain ⟨rfl, rfl, Kq96⟩ := hQ96
    try rw [List.append_nil] at X96
    obtain ⟨cq97, kq97, q97a, q97b, q97c⟩ := isOf hZ0 Kq96 f95
    obtain ⟨_, _, ⟨T97, L97, k97, n97⟩, -, X97, ⟨Lc97, hQ97, l97, y97, z97⟩, st97⟩ := X96.virtualBack hx (y := (⟨"java/lang/String", "equals", "(Ljava/lang/Object;)Z"⟩ : MethodName)) (z := (⟨"java/lang/String", "equals", "(Ljava/lang/Object;)Z"⟩ : MethodName)) hown0 (mvT hZ0 (w_58 hw)) (mvT hZ0 (w_59 hw)) (notFace_of_selects (args := #[]) (mvT hZ0 (w_61 hw))) (mvT hZ0 (w_61 hw)) (mvT hZ0 (w_60 hw)) (by decide) (backOf (W := 0) (rm_seqs l Z a0 hw [] b_78 T85.heap n0 f90 ) hZ0 (w_62 hw) (w_3 hw) (by decide) (by decide)) q97a q97c (g := (mkF mM 149 Ls92 [(.ref b_78), (.ref b_78)])) rfl (by rw [hml]; rfl) (Steps.refl _) (argsL := [(.ref b_78)]) (rest := []) (lenOf pd_9 rfl) rfl (by show 2 * 0 + _ ≤ _; exact Nat.le_of_eq rfl) (hb hby at_149) (fun _ _ => ⟨rfl, Kq96, (by decide : 6 + 0 ≤ _), (by decide : 15 + 0 ≤ _)⟩)
    dsimp only [Pt.U, Pt.locs, Pt.cells, Pt.slots] at X97 l97 y97 z97 st97 hQ97
    subst l97 y97 z97
    obtain ⟨rfl, rfl, Kq97⟩ := hQ97
    try rw [List.append_nil] at X97
    let Ls98 : Array Slot := #[.val (.int p0), .val (.int p1), .val (.int p2), .val (.int p3), .val (.int p4), .val (.ref b1), .val (.ref b18), .val (.int (1 : Int32)), .val (.ref b_78), .val (.int ((p3 + (1 : Int32)) + (p4 &&& (16383 : Int32)))), .val (.ref a_85), .val (.ref b_85), .val (.int (1 : Int32)), .unset, .unset, .unset]
    obtain ⟨cq99, kq99, q99a, q99b, q99c⟩ := isOf hZ0 Kq97 q85_3
    obtain ⟨_, _, ⟨T99, L99, k99, n99⟩, -, X99, ⟨Lc99, hQ99, l99, y99, z99⟩, st99⟩ := X97.virtualBack hx (y := (⟨"com/example/subsumer/subsumer/Role", "isInverse", "()Z"⟩ : MethodName)) (z := (⟨"com/example/subsumer/subsumer/Role", "isInverse", "()Z"⟩ : MethodName)) hown0 (mvT hZ0 (w_63 hw)) (mvT hZ0 (w_64 hw)) (notFace_of_selects (args := #[]) (mvT hZ0 (w_66 hw))) (mvT hZ0 (w_66 hw)) (mvT hZ0 (w_65 hw)) (by decide) (backOf (W := 0) (rm_isi l Z a0 hw [] a_85 (0 : Int32) T85.heap n0 f90 q85_9 (rfl : nar .boolean (0 : Int32) = (0 : Int32))) hZ0 (w_67 hw) (w_32 hw) (by decide) (by decide)) q99a q99c (g := (mkF mM 169 Ls98 [(.ref a_85)])) rfl (by rw [hml]; rfl) (Steps.refl _) (argsL := []) (rest := []) (lenOf pd_10 rfl) rfl (by show 2 * 0 + _ ≤ _; exact Nat.le_of_eq rfl) (hb hby at_169) (fun _ _ => ⟨rfl, Kq97, (by decide : 6 + 0 ≤ _), (by decide : 15 + 0 ≤ _)⟩)
    dsimp only [Pt.U, Pt.locs, Pt.cells, Pt.slots] at X99 l99 y99 z99 st99 hQ99
    subst l99 y99 z99
    obtain ⟨rfl, rfl, Kq99⟩ := hQ99
    try rw [List.append_nil] at X99
    obtain ⟨cq100, kq100, q100a, q100b, q100c⟩ := isOf hZ0 Kq99 q85_4
    obtain ⟨_, _, ⟨T100, L100, k100, n100⟩, -, X100, ⟨Lc100, hQ100, l100, y100, z100⟩, st100⟩ := X99.virtualBack hx (y := (⟨"com/example/subsumer/subsumer/Role", "isInverse", "()Z"⟩ : MethodName)) (z := (⟨"com/example/subsumer/subsumer/Role", "isInverse", "()Z"⟩ : MethodName)) hown0 (mvT hZ0 (w_63 hw)) (mvT hZ0 (w_64 hw)) (notFace_of_selects (args := #[]) (mvT hZ0 (w_66 hw))) (mvT hZ0 (w_66 hw)) (mvT hZ0 (w_65 hw)) (by decide) (backOf (W := 0) (rm_isi l Z a0 hw [] b_85 (1 : Int32) T85.heap n0 f90 q85_10 (rfl : nar .boolean (1 : Int32) = (1 : Int32))) hZ0 (w_67 hw) (w_32 hw) (by decide) (by decide)) q100a q100c (g := (mkF mM 177 Ls98 [(.ref b_85)])) rfl (by rw [hml]; rfl) (Steps.refl _) (argsL := []) (rest := []) (lenOf pd_10 rfl) rfl (by show 2 * 0 + _ ≤ _; exact Nat.le_of_eq rfl) (hb hby at_177) (fun _ _ => ⟨rfl, Kq99, (by decide : 6 + 0 ≤ _), (by decide : 15 + 0 ≤ _)⟩)
    dsimp only [Pt.U, Pt.locs, Pt.cells, Pt.slots] at X100 l100 y100 z100 st100 hQ100
    subst l100 y100 z100
    obtain ⟨rfl, rfl, Kq100⟩ := hQ100
    try rw [List.append_nil] at X100
    let Ls101 : Array Slot := #[.val (.int p0), .val (.int p1), .val (.int p2), .val (.int p3), .val (.int p4), .val (.ref b1), .val (.ref b18), .val (.int (1 : Int32)), .val (.ref b_78), .val (.int ((p3 + (1 : Int32)) + (p4 &&& (16383 : Int32)))), .val (.ref a_85), .val (.ref b_85), .val (.int (1 : Int32)), .unset, .unset, .unset]
    obtain ⟨cq102, kq102, q102a, q102b, q102c⟩ := isOf hZ0 Kq100 q85_4
    obtain ⟨_, _, ⟨T102, L102, k102, n102⟩, -, X102, ⟨Lc102, hQ102, l102, y102, z102⟩, st102⟩ := X100.virtualBack hx (y := (⟨"com/example/subsumer/subsumer/Role", "inverse", "()Lcom/example/subsumer/subsumer/Role;"⟩ : MethodName)) (z := (⟨"com/example/subsumer/subsumer/Role", "inverse", "()Lcom/example/subsumer/subsumer/Role;"⟩ : MethodName)) hown0 (mvT hZ0 (w_48 hw)) (mvT hZ0 (w_49 hw)) (notFace_of_selects (args := #[]) (mvT hZ0 (w_51 hw))) (mvT hZ0 (w_51 hw)) (mvT hZ0 (w_50 hw)) (by decide) (backOf (W := 0) (rm_inv l Z a0 hw [] b_85 a_85 T85.heap n0 f90 q85_12) hZ0 (w_52 hw) (w_32 hw) (by decide) (by decide)) q102a q102c (g := (mkF mM 197 Ls101 [(.ref b_85)])) rfl (by rw [hml]; rfl) (Steps.refl _) (argsL := []) (rest := []) (lenOf pd_7 rfl) rfl (by show 2 * 0 + _ ≤ _; exact Nat.le_of_eq rfl) (hb hby at_197) (fun _ _ => ⟨rfl, Kq100, (by decide : 6 + 0 ≤ _), (by decide : 15 + 0 ≤ _)⟩)
    dsimp only [Pt.U, Pt.locs, Pt.cells, Pt.slots] at X102 l102 y102 z102 st102 hQ102
    subst l102 y102 z102
    obtain ⟨rfl, rfl, Kq102⟩ := hQ102
    try rw [List.append_nil] at X102
    let Ls103 : Array Slot := #[.val (.int p0), .val (.int p1), .val (.int p2), .val (.int p3), .val (.int p4), .val (.ref b1), .val (.ref b18), .val (.int (1 : Int32)), .val (.ref b_78), .val (.int ((p3 + (1 : Int32)) + (p4 &&& (16383 : Int32)))), .val (.ref a_85), .val (.ref b_85), .val (.int (1 : Int32)), .unset, .unset, .unset]
    obtain ⟨cq104, kq104, q104a, q104b, q104c⟩ := isOf hZ0 Kq102 q85_3
    obtain ⟨_, _, ⟨T104, L104, k104, n104⟩, -, X104, ⟨Lc104, hQ104, l104, y104, z104⟩, st104⟩ := X102.virtualBack hx (y := (⟨"com/example/subsumer/subsumer/Role", "hashCode", "()I"⟩ : MethodName)) (z := (⟨"com/example/subsumer/subsumer/Role", "hashCode", "()I"⟩ : MethodName)) hown0 (mvT hZ0 (w_68 hw)) (mvT hZ0 (w_69 hw)) (notFace_of_selects (args := #[]) (mvT hZ0 (w_71 hw))) (mvT hZ0 (w_71 hw)) (mvT hZ0 (w_70 hw)) (by decide) (backOf (W := 0) (rm_hsh l Z a0 hw [] a_85 ((2 : Int32) * p3) T85.heap n0 f90 q85_7) hZ0 (w_72 hw) (w_32 hw) (by decide) (by decide)) q104a q104c (g := (mkF mM 214 Ls103 [(.ref a_85)])) rfl (by rw [hml]; rfl) (Steps.refl _) (argsL := []) (rest := []) (lenOf pd_11 rfl) rfl (by show 2 * 0 + _ ≤ _; exact Nat.le_of_eq rfl) (hb hby at_214) (fun _ _ => ⟨rfl, Kq102, (by decide : 6 + 0 ≤ _), (by decide : 15 + 0 ≤ _)⟩)
    dsimp only [Pt.U, Pt.locs, Pt.cells, Pt.slots] at X104 l104 y104 z104 st104 hQ104
    subst l104 y104 z104
    obtain ⟨rfl, rfl, Kq104⟩ := hQ104
    try rw [List.append_nil] at X104
    let Ls105 : Array Slot := #[.val (.int p0), .val (.int p1), .val (.int p2), .val (.int p3), .val (.int p4), .val (.ref b1), .val (.ref b18), .val (.int (1 : Int32)), .val (.ref b_78), .val (.int ((p3 + (1 : Int32)) + (p4 &&& (16383 : Int32)))), .val (.ref a_85), .val (.ref b_85), .val (.int (1 : Int32)), .val (.int ((2 : Int32) * p3)), .unset, .unset]
    obtain ⟨cq106, kq106, q106a, q106b, q106c⟩ := isOf hZ0 Kq104 q85_4
    obtain ⟨_, _, ⟨T106, L106, k106, n106⟩, -, X106, ⟨Lc106, hQ106, l106, y106, z106⟩, st106⟩ := X104.virtualBack hx (y := (⟨"com/example/subsumer/subsumer/Role", "hashCode", "()I"⟩ : MethodName)) (z := (⟨"com/example/subsumer/subsumer/Role", "hashCode", "()I"⟩ : MethodName)) hown0 (mvT hZ0 (w_68 hw)) (mvT hZ0 (w_69 hw)) (notFace_of_selects (args := #[]) (mvT hZ0 (w_71 hw))) (mvT hZ0 (w_71 hw)) (mvT hZ0 (w_70 hw)) (by decide) (backOf (W := 0) (rm_hsh l Z a0 hw [] b_85 (((2 : Int32) * p3) + (1 : Int32)) T85.heap n0 f90 q85_8) hZ0 (w_72 hw) (w_32 hw) (by decide) (by decide)) q106a q106c (g := (mkF mM 221 Ls105 [(.ref b_85)])) rfl (by rw [hml]; rfl) (Steps.refl _) (argsL := []) (rest := []) (lenOf pd_11 rfl) rfl (by show 2 * 0 + _ ≤ _; exact Nat.le_of_eq rfl) (hb hby at_221) (fun _ _ => ⟨rfl, Kq104, (by decide : 6 + 0 ≤ _), (by decide : 15 + 0 ≤ _)⟩)
    dsimp only [Pt.U, Pt.locs, Pt.cells, Pt.slots] at X106 l106 y106 z106 st106 hQ106
    subst l106 y106 z106
    obtain ⟨rfl, rfl, Kq106⟩ := hQ106
    try rw [List.append_nil] at X106
    let Ls107 : Array Slot := #[.val (.int p0), .val (.int p1), .val (.int p2), .val (.int p3), .val (.int p4), .val (.ref b1), .val (.ref b18), .val (.int (1 : Int32)), .val (.ref b_78), .val (.int ((p3 + (1 : Int32)) + (p4 &&& (16383 : Int32)))), .val (.ref a_85), .val (.ref b_85), .val (.int (1 : Int32)), .val (.int ((2 : Int32) * p3)), .val (.int (((2 : Int32) * p3) + (1 : Int32))), .unset]
    let Ls108 : Array Slot := #[.val (.int p0), .val (.int p1), .val (.int p2), .val (.int p3), .val (.int p4), .val (.ref b1), .val (.ref b18), .val (.int (1 : Int32)), .val (.ref b_78), .val (.int ((p3 + (1 : Int32)) + (p4 &&& (16383 : Int32)))), .val (.ref a_85), .val (.ref b_85), .val (.int (1 : Int32)), .val (.int ((2 : Int32) * p3)), .val (.int (((2 : Int32) * p3) + (1 : Int32))), .unset]
    obtain ⟨_, _, ⟨T109, L109, k109, n109⟩, -, X109, ⟨Lc109, hQ109, l109, y109, z109⟩, st109⟩ := Jvm.LawKit.callS X106 hx (y := (⟨"com/example/subsumer/subsumer/Role", "property", "(Ljava/lang/String;I)Lcom/example/subsumer/subsumer/Role;"⟩ : MethodName)) hown0 (mvT hZ0 (w_30 hw)) (mvT hZ0 (w_31 hw)) (mvT hZ0 (w_32 hw)) (mvT hZ0 (w_33 hw)) (by decide) (backOf (W := 0) (rm_prop l Z a0 hw [] b_78 ((p3 + (1 : Int32)) + (p4 &&& (16383 : Int32))) T85.heap n0 f90 ) hZ0 (w_33 hw) (w_32 hw) (by decide) (by decide)) (g := (mkF mM 258 Ls108 [(.int ((p3 + (1 : Int32)) + (p4 &&& (16383 : Int32)))), (.ref b_78)])) rfl (by rw [hml]; rfl) (argsL := [(.ref b_78), (.int ((p3 + (1 : Int32)) + (p4 &&& (16383 : Int32))))]) (rest := []) (lenOf pd_6 rfl) rfl (by show 2 * 0 + _ ≤ _; exact Nat.le_of_eq rfl) (hb hby at_258) (fun _ _ => ⟨rfl, Kq106, (by decide : 6 + 2 ≤ _), (by decide : 15 + 8 ≤ _)⟩)
    dsimp only [Pt.U, Pt.locs, Pt.cells, Pt.slots] at X109 l109 y109 z109 st109 hQ109
    subst l109 y109 z109
    obtain ⟨a_109, b_109, rfl, Nq109, Kq109, q109_0, q109_1, q109_2, q109_3, q109_4, q109_5, q109_6, q109_7, q109_8, q109_9, q109_10, q109_11, q109_12⟩ := hQ109
    have N109 := Fr.app N85 Nq109
    have g_a_109 : n0 ≤ a_109 := Nat.le_trans (own_osz f90) q109_0
    have sz_a_109 : h0.size ≤ a_109 := Nat.le_trans K88.1 q109_0
    have g_b_109 : n0 ≤ b_109 := Nat.le_trans (own_osz f90) q109_1
    have sz_b_109 : h0.size ≤ b_109 := Nat.le_trans K88.1 q109_1
    have CH110 : CHr Z own_EL sS.vm h0 sS.vm T109.heap := CH86.trans (CHr.keep Kq109 sf0 CH86.1)
    have hk111 := Nat.le_trans hk87 Kq109.1
    have K112 : Keep h0 T109.heap [] := K88.trans Kq109 all0
    let Ls113 : Array Slot := #[.val (.int p0), .val (.int p1), .val (.int p2), .val (.int p3), .val (.int p4), .val (.ref b1), .val (.ref b18), .val (.int (1 : Int32)), .val (.ref b_78), .val (.int ((p3 + (1 : Int32)) + (p4 &&& (16383 : Int32)))), .val (.ref a_85), .val (.ref b_85), .val (.int (1 : Int32)), .val (.int ((2 : Int32) * p3)), .val (.int (((2 : Int32) * p3) + (1 : Int32))), .val (.ref a_109)]
    have f114 := (f90.keep Kq109 all0)
    obtain ⟨cq115, kq115, q115a, q115b, q115c⟩ := isOf hZ0 rfl q109_3
    obtain ⟨_, _, ⟨T115, L115, k115, n115⟩, -, X115, ⟨Lc115, hQ115, l115, y115, z115⟩, st115⟩ := X109.virtualBack hx (y := (⟨"com/example/subsumer/subsumer/Role", "hashCode", "()I"⟩ : MethodName)) (z := (⟨"com/example/subsumer/subsumer/Role", "hashCode", "()I"⟩ : MethodName)) hown0 (mvT hZ0 (w_68 hw)) (mvT hZ0 (w_69 hw)) (notFace_of_selects (args := #[]) (mvT hZ0 (w_71 hw))) (mvT hZ0 (w_71 hw)) (mvT hZ0 (w_70 hw)) (by decide) (backOf (W := 0) (rm_hsh l Z a0 hw [] a_109 ((2 : Int32) * ((p3 + (1 : Int32)) + (p4 &&& (16383 : Int32)))) T109.heap n0 f114 q109_7) hZ0 (w_72 hw) (w_32 hw) (by decide) (by decide)) q115a q115c (g := (mkF mM 277 Ls113 [(.ref a_109)])) rfl (by rw [hml]; rfl) (Steps.refl _) (argsL := []) (rest := []) (lenOf pd_11 rfl) rfl (by show 2 * 0 + _ ≤ _; exact Nat.le_of_eq rfl) (hb hby at_277) (fun _ _ => ⟨rfl, rfl, (by decide : 8 + 0 ≤ _), (by decide : 23 + 0 ≤ _)⟩)
    dsimp only [Pt.U, Pt.locs, Pt.cells, Pt.slots] at X115 l115 y115 z115 st115 hQ115
    subst l115 y115 z115
    obtain ⟨rfl, rfl, Kq115⟩ := hQ115
    try rw [List.append_nil] at X115
    let Ls116 : Array Slot := #[.val (.int p0), .val (.int p1), .val (.int p2), .val (.int p3), .val (.int p4), .val (.ref b1), .val (.ref b18), .val (.int (1 : Int32)), .val (.ref b_78), .val (.int ((p3 + (1 : Int32)) + (p4 &&& (16383 : Int32)))), .val (.ref a_85), .val (.ref b_85), .val (.int (1 : Int32)), .val (.int ((2 : Int32) * p3)), .val (.int (((2 : Int32) * p3) + (1 : Int32))), .val (.ref a_109)]
    obtain ⟨fs, hr, hrun, hended, hR1, hR2, hR3, hR4⟩ := Stand.leaveW (s := sS) (vm₁ := sS.vm) X115 hS0 (by rw [Kq115]; exact hk111) (v := some (.int (1 : Int32))) (fun h => by rw [Bd.returns] at h; cases h)
    refine ⟨_, _, pre24 _ ?_, hrun, hended, _, _, rfl, ?_, ?_, hR1, hR2, hR3, hR4.mono (by decide) (by decide)⟩
    · refine XS.iloadN X18.here hx rfl (hb hby at_28) rfl ?_
      show Steps pP.tables eE below (T18.setTop (mkF mM 29 Ls23 [(.int p2)])) _
      refine XS.iconst X18.here hx rfl (hb hby at_29) ?_
      show Steps pP.tables eE below (T18.setTop (mkF mM 30 Ls23 [(.int (3 : Int32)), (.int p2)])) _
      refine XS.iand X18.here hx rfl (hb hby at_30) rfl ?_
      show Steps pP.tables eE below (T18.setTop (mkF mM 31 Ls23 [(.int (p2 &&& (3 : Int32)))])) _
      rw [hk]
      show Steps pP.tables eE below (T18.setTop (mkF mM 31 Ls23 [(.int (1 : Int32))])) _
      refine XS.istore X18.here hx rfl (hb hby at_31) rfl (l' := Ls74) rfl ?_
      show Steps pP.tables eE below (T18.setTop (mkF mM 33 Ls74 [])) _
      refine XS.iload X18.here hx rfl (hb hby at_33) rfl ?_
      show Steps pP.tables eE below (T18.setTop (mkF mM 35 Ls74 [(.int (1 : Int32))])) _
      refine XS.ifYes X18.here hx rfl (pc0 := 35) (pc' := 52) rfl (hb hby at_35) rfl ((if0 _ _).trans (feq (by decide : ¬ ((1 : Int32) = (0 : Int32)))).2) (by decide) (by decide) ?_
      show Steps pP.tables eE below (T18.setTop (mkF mM 52 Ls74 [])) _
      refine XS.iload X18.here hx rfl (hb hby at_52) rfl ?_
      show Steps pP.tables eE below (T18.setTop (mkF mM 54 Ls74 [(.int (1 : Int32))])) _
      refine XS.iconst X18.here hx rfl (hb hby at_54) ?_
      show Steps pP.tables eE below (T18.setTop (mkF mM 55 Ls74 [(.int (1 : Int32)), (.int (1 : Int32))])) _
      refine XS.icmpNo X18.here hx rfl (hb hby at_55) rfl (teq (by decide : (1 : Int32) = (1 : Int32))).2 ?_
      show Steps pP.tables eE below (T18.setTop (mkF mM 58 Ls74 [])) _
      refine XS.aload X18.here hx rfl (hb hby at_58) rfl rfl ?_
      show Steps pP.tables eE below (T18.setTop (mkF mM 60 Ls74 [(.ref b1)])) _
      refine XS.iconst X18.here hx rfl (hb hby at_60) ?_
      show Steps pP.tables eE below (T18.setTop (mkF mM 61 Ls74 [(.int (0 : Int32)), (.ref b1)])) _
      refine X18.caload hx (j := (0 : Int32)) (v := (.int (p0 &&& (255 : Int32)))) (by rw [e18]; exact Ar75.1) (State.isArrayOf_alike hZ0.alike Ar75.2.1) Ar75.2.2 hin75 hat75 (g := (mkF mM 61 Ls74 [(.int (0 : Int32)), (.ref b1)])) rfl rfl (hb hby at_61) _ ?_
      show Steps pP.tables eE below (T18.setTop (mkF mM 62 Ls74 [(.int (p0 &&& (255 : Int32)))])) _
      refine st78 _ ?_
      show Steps pP.tables eE below (T78.setTop (mkF mM 65 Ls74 [(.ref b_78)])) _
      refine XS.astore X78.here hx rfl (hb hby at_65) rfl rfl (l' := Ls82) rfl ?_
      show Steps pP.tables eE below (T78.setTop (mkF mM 67 Ls82 [])) _
      refine XS.goto X78.here hx rfl (pc0 := 67) (pc' := 81) rfl (hb hby at_67) (by decide) (by decide) ?_
      show Steps pP.tables eE below (T78.setTop (mkF mM 81 Ls82 [])) _
      refine XS.iloadN X78.here hx rfl (hb hby at_81) rfl ?_
      show Steps pP.tables eE below (T78.setTop (mkF mM 82 Ls82 [(.int p3)])) _
      refine XS.iconst X78.here hx rfl (hb hby at_82) ?_
      show Steps pP.tables eE below (T78.setTop (mkF mM 83 Ls82 [(.int (1 : Int32)), (.int p3)])) _
      refine XS.iadd X78.here hx rfl (hb hby at_83) rfl ?_
      show Steps pP.tables eE below (T78.setTop (mkF mM 84 Ls82 [(.int (p3 + (1 : Int32)))])) _
      refine XS.iload X78.here hx rfl (hb hby at_84) rfl ?_
      show Steps pP.tables eE below (T78.setTop (mkF mM 86 Ls82 [(.int p4), (.int (p3 + (1 : Int32)))])) _
      refine XS.sipush X78.here hx rfl (hb hby at_86) ?_
      show Steps pP.tables eE below (T78.setTop (mkF mM 89 Ls82 [(.int (16383 : Int32)), (.int p4), (.int (p3 + (1 : Int32)))])) _
      refine XS.iand X78.here hx rfl (hb hby at_89) rfl ?_
      show Steps pP.tables eE below (T78.setTop (mkF mM 90 Ls82 [(.int (p4 &&& (16383 : Int32))), (.int (p3 + (1 : Int32)))])) _
      refine XS.iadd X78.here hx rfl (hb hby at_90) rfl ?_
      show Steps pP.tables eE below (T78.setTop (mkF mM 91 Ls82 [(.int ((p3 + (1 : Int32)) + (p4 &&& (16383 : Int32))))])) _
      refine XS.istore X78.here hx rfl (hb hby at_91) rfl (l' := Ls83) rfl ?_
      show Steps pP.tables eE below (T78.setTop (mkF mM 93 Ls83 [])) _
      refine XS.aload X78.here hx rfl (hb hby at_93) rfl rfl ?_
      show Steps pP.tables eE below (T78.setTop (mkF mM 95 Ls83 [(.ref b_78)])) _
      refine XS.iloadN X78.here hx rfl (hb hby at_95) rfl ?_
      show Steps pP.tables eE below (T78.setTop (mkF mM 96 Ls83 [(.int p3), (.ref b_78)])) _
      refine st85 _ ?_
      show Steps pP.tables eE below (T85.setTop (mkF mM 99 Ls83 [(.ref a_85)])) _
      refine XS.astore X85.here hx rfl (hb hby at_99) rfl rfl (l' := Ls89) rfl ?_
      show Steps pP.tables eE below (T85.setTop (mkF mM 101 Ls89 [])) _
      refine XS.aload X85.here hx rfl (hb hby at_101) rfl rfl ?_
      show Steps pP.tables eE below (T85.setTop (mkF mM 103 Ls89 [(.ref a_85)])) _
      refine XS.ifnonnullYes X85.here hx rfl (pc0 := 103) (pc' := 108) rfl (hb hby at_103) rfl (by decide) (by decide) ?_
      show Steps pP.tables eE below (T85.setTop (mkF mM 108 Ls89 [])) _
      refine XS.aload X85.here hx rfl (hb hby at_108) rfl rfl ?_
      show Steps pP.tables eE below (T85.setTop (mkF mM 110 Ls89 [(.ref a_85)])) _
      refine st91.trans ?_
      show Steps pP.tables eE below (T91.setTop (mkF mM 113 Ls89 [(.ref b_85)])) _
      refine XS.astore X91.here hx rfl (hb hby at_113) rfl rfl (l' := Ls92) rfl ?_
      show Steps pP.tables eE below (T91.setTop (mkF mM 115 Ls92 [])) _
      refine XS.aload X91.here hx rfl (hb hby at_115) rfl rfl ?_
      show Steps pP.tables eE below (T91.setTop (mkF mM 117 Ls92 [(.ref b_85)])) _
      refine XS.ifnullNo X91.here hx rfl (hb hby at_117) rfl ?_
      show Steps pP.tables eE below (T91.setTop (mkF mM 120 Ls92 [])) _
      refine XS.aload X91.here hx rfl (hb hby at_120) rfl rfl ?_
      show Steps pP.tables eE below (T91.setTop (mkF mM 122 Ls92 [(.ref b_85)])) _
      refine XS.aload X91.here hx rfl (hb hby at_122) rfl rfl ?_
      show Steps pP.tables eE below (T91.setTop (mkF mM 124 Ls92 [(.ref a_85), (.ref b_85)])) _
      refine Jvm.RoadKit.acmp (g := (mkF mM 124 Ls92 [(.ref a_85), (.ref b_85)])) X91 hx rfl rfl rfl (pc0 := 124) (pc' := 129) (same := false) rfl (hb hby at_124) rfl (decide_eq_false fun q => (Ne.symm q85_2) (Value.ref.inj q)) (by decide) (by decide) ?_
      show Steps pP.tables eE below (T91.setTop (mkF mM 129 Ls92 [])) _
      refine XS.aload X91.here hx rfl (hb hby at_129) rfl rfl ?_
      show Steps pP.tables eE below (T91.setTop (mkF mM 131 Ls92 [(.ref b_78)])) _
      refine XS.aload X91.here hx rfl (hb hby at_131) rfl rfl ?_
      show Steps pP.tables eE below (T91.setTop (mkF mM 133 Ls92 [(.ref a_85), (.ref b_78)])) _
      refine st93.trans ?_
      show Steps pP.tables eE below (T93.setTop (mkF mM 136 Ls92 [(.ref b_78), (.ref b_78)])) _
      refine st94.trans ?_
      show Steps pP.tables eE below (T94.setTop (mkF mM 139 Ls92 [(.int (1 : Int32))])) _
      refine XS.ifNo X94.here hx rfl (hb hby at_139) rfl ((if0 _ _).trans (feq (by decide : ¬ ((1 : Int32) = (0 : Int32)))).1) ?_
      show Steps pP.tables eE below (T94.setTop (mkF mM 142 Ls92 [])) _
      refine XS.aload X94.here hx rfl (hb hby at_142) rfl rfl ?_
      show Steps pP.tables eE below (T94.setTop (mkF mM 144 Ls92 [(.ref b_78)])) _
      refine XS.aload X94.here hx rfl (hb hby at_144) rfl rfl ?_
      show Steps pP.tables eE below (T94.setTop (mkF mM 146 Ls92 [(.ref b_85), (.ref b_78)])) _
      refine st96.trans ?_
      show Steps pP.tables eE below (T96.setTop (mkF mM 149 Ls92 [(.ref b_78), (.ref b_78)])) _
      refine st97.trans ?_
      show Steps pP.tables eE below (T97.setTop (mkF mM 152 Ls92 [(.int (1 : Int32))])) _
      refine XS.ifNo X97.here hx rfl (hb hby at_152) rfl ((if0 _ _).trans (feq (by decide : ¬ ((1 : Int32) = (0 : Int32)))).1) ?_
      show Steps pP.tables eE below (T97.setTop (mkF mM 155 Ls92 [])) _
      refine XS.iconst X97.here hx rfl (hb hby at_155) ?_
      show Steps pP.tables eE below (T97.setTop (mkF mM 156 Ls92 [(.int (1 : Int32))])) _
      refine XS.goto X97.here hx rfl (pc0 := 156) (pc' := 160) rfl (hb hby at_156) (by decide) (by decide) ?_
      show Steps pP.tables eE below (T97.setTop (mkF mM 160 Ls92 [(.int (1 : Int32))])) _
      refine XS.istore X97.here hx rfl (hb hby at_160) rfl (l' := Ls98) rfl ?_
      show Steps pP.tables eE below (T97.setTop (mkF mM 162 Ls98 [])) _
      refine XS.iload X97.here hx rfl (hb hby at_162) rfl ?_
      show Steps pP.tables eE below (T97.setTop (mkF mM 164 Ls98 [(.int (1 : Int32))])) _
      refine XS.ifNo X97.here hx rfl (hb hby at_164) rfl ((if0 _ _).trans (feq (by decide : ¬ ((1 : Int32) = (0 : Int32)))).1) ?_
      show Steps pP.tables eE below (T97.setTop (mkF mM 167 Ls98 [])) _
      refine XS.aload X97.here hx rfl (hb hby at_167) rfl rfl ?_
      show Steps pP.tables eE below (T97.setTop (mkF mM 169 Ls98 [(.ref a_85)])) _
      refine st99.trans ?_
      show Steps pP.tables eE below (T99.setTop (mkF mM 172 Ls98 [(.int (0 : Int32))])) _
      refine XS.ifNo X99.here hx rfl (hb hby at_172) rfl ((if0 _ _).trans (teq (by decide : (0 : Int32) = (0 : Int32))).2) ?_
      show Steps pP.tables eE below (T99.setTop (mkF mM 175 Ls98 [])) _
      refine XS.aload X99.here hx rfl (hb hby at_175) rfl rfl ?_
      show Steps pP.tables eE below (T99.setTop (mkF mM 177 Ls98 [(.ref b_85)])) _
      refine st100.trans ?_
      show Steps pP.tables eE below (T100.setTop (mkF mM 180 Ls98 [(.int (1 : Int32))])) _
      refine XS.ifNo X100.here hx rfl (hb hby at_180) rfl ((if0 _ _).trans (feq (by decide : ¬ ((1 : Int32) = (0 : Int32)))).1) ?_
      show Steps pP.tables eE below (T100.setTop (mkF mM 183 Ls98 [])) _
      refine XS.iconst X100.here hx rfl (hb hby at_183) ?_
      show Steps pP.tables eE below (T100.setTop (mkF mM 184 Ls98 [(.int (1 : Int32))])) _
      refine XS.goto X100.here hx rfl (pc0 := 184) (pc' := 188) rfl (hb hby at_184) (by decide) (by decide) ?_
      show Steps pP.tables eE below (T100.setTop (mkF mM 188 Ls98 [(.int (1 : Int32))])) _
      refine XS.istore X100.here hx rfl (hb hby at_188) rfl (l' := Ls101) rfl ?_
      show Steps pP.tables eE below (T100.setTop (mkF mM 190 Ls101 [])) _
      refine XS.iload X100.here hx rfl (hb hby at_190) rfl ?_
      show Steps pP.tables eE below (T100.setTop (mkF mM 192 Ls101 [(.int (1 : Int32))])) _
      refine XS.ifNo X100.here hx rfl (hb hby at_192) rfl ((if0 _ _).trans (feq (by decide : ¬ ((1 : Int32) = (0 : Int32)))).1) ?_
      show Steps pP.tables eE below (T100.setTop (mkF mM 195 Ls101 [])) _
      refine XS.aload X100.here hx rfl (hb hby at_195) rfl rfl ?_
      show Steps pP.tables eE below (T100.setTop (mkF mM 197 Ls101 [(.ref b_85)])) _
      refine st102.trans ?_
      show Steps pP.tables eE below (T102.setTop (mkF mM 200 Ls101 [(.ref a_85)])) _
      refine XS.aload X102.here hx rfl (hb hby at_200) rfl rfl ?_
      show Steps pP.tables eE below (T102.setTop (mkF mM 202 Ls101 [(.ref a_85), (.ref a_85)])) _
      refine Jvm.RoadKit.acmp (g := (mkF mM 202 Ls101 [(.ref a_85), (.ref a_85)])) X102 hx rfl rfl rfl (pc0 := 202) (pc' := 205) (same := true) rfl (hb hby at_202) rfl (decide_eq_true rfl) (by decide) (by decide) ?_
      show Steps pP.tables eE below (T102.setTop (mkF mM 205 Ls101 [])) _
      refine XS.iconst X102.here hx rfl (hb hby at_205) ?_
      show Steps pP.tables eE below (T102.setTop (mkF mM 206 Ls101 [(.int (1 : Int32))])) _
      refine XS.goto X102.here hx rfl (pc0 := 206) (pc' := 210) rfl (hb hby at_206) (by decide) (by decide) ?_
      show Steps pP.tables eE below (T102.setTop (mkF mM 210 Ls101 [(.int (1 : Int32))])) _
      refine XS.istore X102.here hx rfl (hb hby at_210) rfl (l' := Ls103) rfl ?_
      show Steps pP.tables eE below (T102.setTop (mkF mM 212 Ls103 [])) _
      refine XS.aload X102.here hx rfl (hb hby at_212) rfl rfl ?_
      show Steps pP.tables eE below (T102.setTop (mkF mM 214 Ls103 [(.ref a_85)])) _
      refine st104.trans ?_
      show Steps pP.tables eE below (T104.setTop (mkF mM 217 Ls103 [(.int ((2 : Int32) * p3))])) _
      refine XS.istore X104.here hx rfl (hb hby at_217) rfl (l' := Ls105) rfl ?_
      show Steps pP.tables eE below (T104.setTop (mkF mM 219 Ls105 [])) _
      refine XS.aload X104.here hx rfl (hb hby at_219) rfl rfl ?_
      show Steps pP.tables eE below (T104.setTop (mkF mM 221 Ls105 [(.ref b_85)])) _
      refine st106.trans ?_
      show Steps pP.tables eE below (T106.setTop (mkF mM 224 Ls105 [(.int (((2 : Int32) * p3) + (1 : Int32)))])) _
      refine XS.istore X106.here hx rfl (hb hby at_224) rfl (l' := Ls107) rfl ?_
      show Steps pP.tables eE below (T106.setTop (mkF mM 226 Ls107 [])) _
      refine XS.iload X106.here hx rfl (hb hby at_226) rfl ?_
      show Steps pP.tables eE below (T106.setTop (mkF mM 228 Ls107 [(.int (1 : Int32))])) _
      refine XS.ifNo X106.here hx rfl (hb hby at_228) rfl ((if0 _ _).trans (feq (by decide : ¬ ((1 : Int32) = (0 : Int32)))).1) ?_
      show Steps pP.tables eE below (T106.setTop (mkF mM 231 Ls107 [])) _
      refine XS.iload X106.here hx rfl (hb hby at_231) rfl ?_
      show Steps pP.tables eE below (T106.setTop (mkF mM 233 Ls107 [(.int ((2 : Int32) * p3))])) _
      refine XS.iconst X106.here hx rfl (hb hby at_233) ?_
      show Steps pP.tables eE below (T106.setTop (mkF mM 234 Ls107 [(.int (1 : Int32)), (.int ((2 : Int32) * p3))])) _
      refine XS.iand X106.here hx rfl (hb hby at_234) rfl ?_
      show Steps pP.tables eE below (T106.setTop (mkF mM 235 Ls107 [(.int (((2 : Int32) * p3) &&& (1 : Int32)))])) _
      refine XS.ifNo X106.here hx rfl (hb hby at_235) rfl ((if0 _ _).trans (teq (own_even p3)).2) ?_
      show Steps pP.tables eE below (T106.setTop (mkF mM 238 Ls107 [])) _
      refine XS.iload X106.here hx rfl (hb hby at_238) rfl ?_
      show Steps pP.tables eE below (T106.setTop (mkF mM 240 Ls107 [(.int (((2 : Int32) * p3) + (1 : Int32)))])) _
      refine XS.iload X106.here hx rfl (hb hby at_240) rfl ?_
      show Steps pP.tables eE below (T106.setTop (mkF mM 242 Ls107 [(.int ((2 : Int32) * p3)), (.int (((2 : Int32) * p3) + (1 : Int32)))])) _
      refine XS.iconst X106.here hx rfl (hb hby at_242) ?_
      show Steps pP.tables eE below (T106.setTop (mkF mM 243 Ls107 [(.int (1 : Int32)), (.int ((2 : Int32) * p3)), (.int (((2 : Int32) * p3) + (1 : Int32)))])) _
      refine XS.iadd X106.here hx rfl (hb hby at_243) rfl ?_
      show Steps pP.tables eE below (T106.setTop (mkF mM 244 Ls107 [(.int (((2 : Int32) * p3) + (1 : Int32))), (.int (((2 : Int32) * p3) + (1 : Int32)))])) _
      refine XS.icmpNo X106.here hx rfl (hb hby at_244) rfl (teq (rfl : (((2 : Int32) * p3) + (1 : Int32)) = (((2 : Int32) * p3) + (1 : Int32)))).2 ?_
      show Steps pP.tables eE below (T106.setTop (mkF mM 247 Ls107 [])) _
      refine XS.iconst X106.here hx rfl (hb hby at_247) ?_
      show Steps pP.tables eE below (T106.setTop (mkF mM 248 Ls107 [(.int (1 : Int32))])) _
      refine XS.goto X106.here hx rfl (pc0 := 248) (pc' := 252) rfl (hb hby at_248) (by decide) (by decide) ?_
      show Steps pP.tables eE below (T106.setTop (mkF mM 252 Ls107 [(.int (1 : Int32))])) _
      refine XS.istore X106.here hx rfl (hb hby at_252) rfl (l' := Ls108) rfl ?_
      show Steps pP.tables eE below (T106.setTop (mkF mM 254 Ls108 [])) _
      refine XS.aload X106.here hx rfl (hb hby at_254) rfl rfl ?_
      show Steps pP.tables eE below (T106.setTop (mkF mM 256 Ls108 [(.ref b_78)])) _
      refine XS.iload X106.here hx rfl (hb hby at_256) rfl ?_
      show Steps pP.tables eE below (T106.setTop (mkF mM 258 Ls108 [(.int ((p3 + (1 : Int32)) + (p4 &&& (16383 : Int32)))), (.ref b_78)])) _
      refine st109 _ ?_
      show Steps pP.tables eE below (T109.setTop (mkF mM 261 Ls108 [(.ref a_109)])) _
      refine XS.astore X109.here hx rfl (hb hby at_261) rfl rfl (l' := Ls113) rfl ?_
      show Steps pP.tables eE below (T109.setTop (mkF mM 263 Ls113 [])) _
      refine XS.iload X109.here hx rfl (hb hby at_263) rfl ?_
      show Steps pP.tables eE below (T109.setTop (mkF mM 265 Ls113 [(.int (1 : Int32))])) _
      refine XS.ifNo X109.here hx rfl (hb hby at_265) rfl ((if0 _ _).trans (feq (by decide : ¬ ((1 : Int32) = (0 : Int32)))).1) ?_
      show Steps pP.tables eE below (T109.setTop (mkF mM 268 Ls113 [])) _
      refine XS.aload X109.here hx rfl (hb hby at_268) rfl rfl ?_
      show Steps pP.tables eE below (T109.setTop (mkF mM 270 Ls113 [(.ref a_109)])) _
      refine XS.aload X109.here hx rfl (hb hby at_270) rfl rfl ?_
      show Steps pP.tables eE below (T109.setTop (mkF mM 272 Ls113 [(.ref a_85), (.ref a_109)])) _
      refine Jvm.RoadKit.acmp (g := (mkF mM 272 Ls113 [(.ref a_85), (.ref a_109)])) X109 hx rfl rfl rfl (pc0 := 272) (pc' := 275) (same := false) rfl (hb hby at_272) rfl (decide_eq_false fun q => (Ne.symm (Nat.ne_of_lt (Nat.lt_of_lt_of_le (q85_3).lt q109_0))) (Value.ref.inj q)) (by decide) (by decide) ?_
      show Steps pP.tables eE below (T109.setTop (mkF mM 275 Ls113 [])) _
      refine XS.aload X109.here hx rfl (hb hby at_275) rfl rfl ?_
      show Steps pP.tables eE below (T109.setTop (mkF mM 277 Ls113 [(.ref a_109)])) _
      refine st115.trans ?_
      show Steps pP.tables eE below (T115.setTop (mkF mM 280 Ls113 [(.int ((2 : Int32) * ((p3 + (1 : Int32)) + (p4 &&& (16383 : Int32)))))])) _
      refine XS.iload X115.here hx rfl (hb hby at_280) rfl ?_
      show Steps pP.tables eE below (T115.setTop (mkF mM 282 Ls113 [(.int ((2 : Int32) * p3)), (.int ((2 : Int32) * ((p3 + (1 : Int32)) + (p4 &&& (16383 : Int32)))))])) _
      refine XS.icmpNo X115.here hx rfl (hb hby at_282) rfl (feq (own_dif p3 p4)).1 ?_
      show Steps pP.tables eE below (T115.setTop (mkF mM 285 Ls113 [])) _
      refine XS.iconst X115.here hx rfl (hb hby at_285) ?_
      show Steps pP.tables eE below (T115.setTop (mkF mM 286 Ls113 [(.int (1 : Int32))])) _
      refine XS.goto X115.here hx rfl (pc0 := 286) (pc' := 290) rfl (hb hby at_286) (by decide) (by decide) ?_
      show Steps pP.tables eE below (T115.setTop (mkF mM 290 Ls113 [(.int (1 : Int32))])) _
      refine XS.istore X115.here hx rfl (hb hby at_290) rfl (l' := Ls116) rfl ?_
      show Steps pP.tables eE below (T115.setTop (mkF mM 292 Ls116 [])) _
      refine XS.iload X115.here hx rfl (hb hby at_292) rfl ?_
      show Steps pP.tables eE below (T115.setTop (mkF mM 294 Ls116 [(.int (1 : Int32))])) _
      exact retN X115 hx (t := .boolean) Bd.returns (by simp) (hb hby at_294) hr
    · show Q_law Z p0 p1 p2 p3 p4 zc fm h0 n0 _ T115.heap _
      rw [Kq115]
      exact ⟨rfl, N109, K112⟩
    · show CHr Z own_EL sS.vm sS.heap T115.vm T115.heap
      rw [hh, Kq115]
      exact CH110.trans (CHv.at X115 hZ0 hEL CH110.1)
  · let Ls118 : Array Slot := #[.val (.int p0), .val (.int p1), .val (.int p2), .val (.int p3), .val (.int p4), .val (.ref b1), .val (.ref b18), .val (.int (2 : Int32)), .unset, .unset, .unset, .unset, .unset, .unset, .unset, .unset]
    obtain ⟨T119, h119, X119, e119, E119, A119, D119, -, st119⟩ := newO X18 hx hZ0 hown0 (w_1 hw) (w_2 hw) (w_3 hw) e18 (g := (mkF mM 70 Ls118 [])) rfl (hb hby at_70) (by decide) (by decide)
    obtain ⟨b119, g119⟩ : ∃ z, z = h18.size := ⟨_, rfl⟩
    rw [← g119] at A119 D119 st119
    have Sn_b119 : Safe Z own_EL sS.vm h18 b119 := Safe.new (Nat.le_of_eq g119.symm)
    have f120 := (f19.ext E18)
    have g_b119 : n0 ≤ b119 := Nat.le_trans (own_osz f120) (Nat.le_of_eq g119.symm)
    have sz_b119 : h0.size ≤ b119 := Nat.le_trans K22.1 (Nat.le_of_eq g119.symm)
    have CH121 : CHr Z own_EL sS.vm h0 sS.vm h119 := CH20.trans (CHr.ext E119 CH20.1)
    have hk122 := Nat.le_trans hk21 E119.1
    have K123 : Keep h0 h119 [] := K22.ext E119
    have F_b119_coder : Fld Z h119 b119 "java/lang/String" "coder" "B" (.int (0 : Int32)) := D119 (Or.inr (w_27 hw)) (ty := .byte) (by decide)
    have F_b119_value : Fld Z h119 b119 "java/lang/String" "value" "[B" .null := D119 (Or.inr (w_29 hw)) (ty := (.array .byte)) (by decide)
    have f124 := (f120.ext E119)
    have f125 := ((V11.ext E18).ext E119)
    obtain ⟨_, _, ⟨T126, L126, k126, n126⟩, -, X126, ⟨Lc126, hQ126, l126, y126, z126⟩, st126⟩ := X119.specialBack hx (y := (⟨"java/lang/String", "<init>", "([C)V"⟩ : MethodName)) rfl hown0 (mvT hZ0 (w_4 hw)) (mvT hZ0 (w_5 hw)) (mvT hZ0 (w_6 hw)) (by decide) (own_new (W := 1) hZ0 hw (cs := [(p0 &&& (255 : Int32)), (p1 &&& (255 : Int32))]) (n := 2) g_b119 (own_osz f124) A119 F_b119_value F_b119_coder f125 (Sta.ext (f124).2 S_COMPACT_STRINGS) hp1 rfl rfl (by decide) (by decide) hcs (by decide) (by decide)) (g := (mkF mM 76 Ls118 [(.ref b1), (.ref b119), (.ref b119)])) rfl (by rw [hml]; rfl) (Steps.refl _) (a := b119) (argsL := [(.ref b1)]) (rest := [(.ref b119)]) (lenOf pd_5 rfl) rfl (by show 2 * 0 + _ ≤ _; exact Nat.le_of_eq rfl) (hb hby at_76) (fun _ _ => ⟨rfl, e119, (by decide : 3 + 1 ≤ _), (by decide : 6 + 2 ≤ _)⟩)
    dsimp only [Pt.U, Pt.locs, Pt.cells, Pt.slots] at X126 l126 y126 z126 st126 hQ126
    subst l126 y126 z126
    obtain ⟨rfl, Nq126, Kq126, t126, kb126, hs126, Sq126⟩ := hQ126
    have N126 := Fr.app N11 Nq126
    have g_t126 : n0 ≤ t126 := Nat.le_trans (own_osz f124) hs126
    have sz_t126 : h0.size ≤ t126 := Nat.le_trans K123.1 hs126
    have f128 := (Safe.ext E119 CH20.1 Sn_b119)
    have sfp129 := (sfS f128 sf0)
    have CH127 : CHr Z own_EL sS.vm h0 sS.vm T126.heap := CH121.trans (CHr.keep Kq126 sfp129 CH121.1)
    have hk130 := Nat.le_trans hk122 Kq126.1
    have K131 : Keep h0 T126.heap [] := K123.trans Kq126 (allS (Or.inr sz_b119) all0)
    let Ls132 : Array Slot := #[.val (.int p0), .val (.int p1), .val (.int p2), .val (.int p3), .val (.int p4), .val (.ref b1), .val (.ref b18), .val (.int (2 : Int32)), .val (.ref b119), .unset, .unset, .unset, .unset, .unset, .unset, .unset]
    let Ls133 : Array Slot := #[.val (.int p0), .val (.int p1), .val (.int p2), .val (.int p3), .val (.int p4), .val (.ref b1), .val (.ref b18), .val (.int (2 : Int32)), .val (.ref b119), .val (.int ((p3 + (1 : Int32)) + (p4 &&& (16383 : Int32)))), .unset, .unset, .unset, .unset, .unset, .unset]
    have f134 := (f124.keep Kq126 (allS g_b119 all0))
    obtain ⟨_, _, ⟨T135, L135, k135, n135⟩, -, X135, ⟨Lc135, hQ135, l135, y135, z135⟩, st135⟩ := Jvm.LawKit.callS X126 hx (y := (⟨"com/example/subsumer/subsumer/Role", "property", "(Ljava/lang/String;I)Lcom/example/subsumer/subsumer/Role;"⟩ : MethodName)) hown0 (mvT hZ0 (w_30 hw)) (mvT hZ0 (w_31 hw)) (mvT hZ0 (w_32 hw)) (mvT hZ0 (w_33 hw)) (by decide) (backOf (W := 0) (rm_prop l Z a0 hw [] b119 p3 T126.heap n0 f134 ) hZ0 (w_33 hw) (w_32 hw) (by decide) (by decide)) (g := (mkF mM 96 Ls133 [(.int p3), (.ref b119)])) rfl (by rw [hml]; rfl) (argsL := [(.ref b119), (.int p3)]) (rest := []) (lenOf pd_6 rfl) rfl (by show 2 * 0 + _ ≤ _; exact Nat.le_of_eq rfl) (hb hby at_96) (fun _ _ => ⟨rfl, rfl, (by decide : 4 + 2 ≤ _), (by decide : 8 + 8 ≤ _)⟩)
    dsimp only [Pt.U, Pt.locs, Pt.cells, Pt.slots] at X135 l135 y135 z135 st135 hQ135
    subst l135 y135 z135
    obtain ⟨a_135, b_135, rfl, Nq135, Kq135, q135_0, q135_1, q135_2, q135_3, q135_4, q135_5, q135_6, q135_7, q135_8, q135_9, q135_10, q135_11, q135_12⟩ := hQ135
    have N135 := Fr.app N126 Nq135
    have g_a_135 : n0 ≤ a_135 := Nat.le_trans (own_osz f134) q135_0
    have sz_a_135 : h0.size ≤ a_135 := Nat.le_trans K131.1 q135_0
    have g_b_135 : n0 ≤ b_135 := Nat.le_trans (own_osz f134) q135_1
    have sz_b_135 : h0.size ≤ b_135 := Nat.le_trans K131.1 q135_1
    have CH136 : CHr Z own_EL sS.vm h0 sS.vm T135.heap := CH127.trans (CHr.keep Kq135 sf0 CH127.1)
    have hk137 := Nat.le_trans hk130 Kq135.1
    have K138 : Keep h0 T135.heap [] := K131.trans Kq135 all0
    let Ls139 : Array Slot := #[.val (.int p0), .val (.int p1), .val (.int p2), .val (.int p3), .val (.int p4), .val (.ref b1), .val (.ref b18), .val (.int (2 : Int32)), .val (.ref b119), .val (.int ((p3 + (1 : Int32)) + (p4 &&& (16383 : Int32)))), .val (.ref a_135), .unset, .unset, .unset, .unset, .unset]
    have f140 := (f134.keep Kq135 all0)
    obtain ⟨cq141, kq141, q141a, q141b, q141c⟩ := isOf hZ0 rfl q135_3
    obtain ⟨_, _, ⟨T141, L141, k141, n141⟩, -, X141, ⟨Lc141, hQ141, l141, y141, z141⟩, st141⟩ := X135.virtualBack hx (y := (⟨"com/example/subsumer/subsumer/Role", "inverse", "()Lcom/example/subsumer/subsumer/Role;"⟩ : MethodName)) (z := (⟨"com/example/subsumer/subsumer/Role", "inverse", "()Lcom/example/subsumer/subsumer/Role;"⟩ : MethodName)) hown0 (mvT hZ0 (w_48 hw)) (mvT hZ0 (w_49 hw)) (notFace_of_selects (args := #[]) (mvT hZ0 (w_51 hw))) (mvT hZ0 (w_51 hw)) (mvT hZ0 (w_50 hw)) (by decide) (backOf (W := 0) (rm_inv l Z a0 hw [] a_135 b_135 T135.heap n0 f140 q135_11) hZ0 (w_52 hw) (w_32 hw) (by decide) (by decide)) q141a q141c (g := (mkF mM 110 Ls139 [(.ref a_135)])) rfl (by rw [hml]; rfl) (Steps.refl _) (argsL := []) (rest := []) (lenOf pd_7 rfl) rfl (by show 2 * 0 + _ ≤ _; exact Nat.le_of_eq rfl) (hb hby at_110) (fun _ _ => ⟨rfl, rfl, (by decide : 6 + 0 ≤ _), (by decide : 16 + 0 ≤ _)⟩)
    dsimp only [Pt.U, Pt.locs, Pt.cells, Pt.slots] at X141 l141 y141 z141 st141 hQ141
    subst l141 y141 z141
    obtain ⟨rfl, rfl, Kq141⟩ := hQ141
    try rw [List.append_nil] at X141
    let Ls142 : Array Slot := #[.val (.int p0), .val (.int p1), .val (.int p2), .val (.int p3), .val (.int p4), .val (.ref b1), .val (.ref b18), .val (.int (2 : Int32)), .val (.ref b119), .val (.int ((p3 + (1 : Int32)) + (p4 &&& (16383 : Int32)))), .val (.ref a_135), .val (.ref b_135), .unset, .unset, .unset, .unset]
    obtain ⟨cq143, kq143, q143a, q143b, q143c⟩ := isOf hZ0 Kq141 q135_3
    obtain ⟨_, _, ⟨T143, L143, k143, n143⟩, -, X143, ⟨Lc143, hQ143, l143, y143, z143⟩, st143⟩ := X141.virtualBack hx (y := (⟨"com/example/subsumer/subsumer/Role", "iri", "()Ljava/lang/String;"⟩ : MethodName)) (z := (⟨"com/example/subsumer/subsumer/Role", "iri", "()Ljava/lang/String;"⟩ : MethodName)) hown0 (mvT hZ0 (w_53 hw)) (mvT hZ0 (w_54 hw)) (notFace_of_selects (args := #[]) (mvT hZ0 (w_56 hw))) (mvT hZ0 (w_56 hw)) (mvT hZ0 (w_55 hw)) (by decide) (backOf (W := 1) (rm_iri l Z a0 hw [] a_135 b119 T135.heap n0 f140 q135_5) hZ0 (w_57 hw) (w_32 hw) (by decide) (by decide)) q143a q143c (g := (mkF mM 133 Ls142 [(.ref a_135), (.ref b119)])) rfl (by rw [hml]; rfl) (Steps.refl _) (argsL := []) (rest := [(.ref b119)]) (lenOf pd_8 rfl) rfl (by show 2 * 0 + _ ≤ _; exact Nat.le_of_eq rfl) (hb hby at_133) (fun _ _ => ⟨rfl, Kq141, (by decide : 6 + 0 ≤ _), (by decide : 16 + 0 ≤ _)⟩)
    dsimp only [Pt.U, Pt.locs, Pt.cells, Pt.slots] at X143 l143 y143 z143 st143 hQ143
    subst l143 y143 z143
    obtain ⟨rfl, rfl, Kq143⟩ := hQ143
    try rw [List.append_nil] at X143
    have f145 := ((Sq126).1.keep Kq135)
    obtain ⟨cq144, kq144, q144a, q144b, q144c⟩ := isOf hZ0 Kq143 f145
    obtain ⟨_, _, ⟨T144, L144, k144, n144⟩, -, X144, ⟨Lc144, hQ144, l144, y144, z144⟩, st144⟩ := X143.virtualBack hx (y := (⟨"java/lang/String", "equals", "(Ljava/lang/Object;)Z"⟩ : MethodName)) (z := (⟨"java/lang/String", "equals", "(Ljava/lang/Object;)Z"⟩ : MethodName)) hown0 (mvT hZ0 (w_58 hw)) (mvT hZ0 (w_59 hw)) (notFace_of_selects (args := #[]) (mvT hZ0 (w_61 hw))) (mvT hZ0 (w_61 hw)) (mvT hZ0 (w_60 hw)) (by decide) (backOf (W := 0) (rm_seqs l Z a0 hw [] b119 T135.heap n0 f140 ) hZ0 (w_62 hw) (w_3 hw) (by decide) (by decide)) q144a q144c (g := (mkF mM 136 Ls142 [(.ref b119), (.ref b119)])) rfl (by rw [hml]; rfl) (Steps.refl _) (argsL := [(.ref b119)]) (rest := []) (lenOf pd_9 rfl) rfl (by show 2 * 0 + _ ≤ _; exact Nat.le_of_eq rfl) (hb hby at_136) (fun _ _ => ⟨rfl, Kq143, (by decide : 6 + 0 ≤ _), (by decide : 16 + 0 ≤ _)⟩)
    dsimp only [Pt.U, Pt.locs, Pt.cells, Pt.slots] at X144 l144 y144 z144 st144 hQ144
    subst l144 y144 z144
    obtain ⟨rfl, rfl, Kq144⟩ := hQ144
    try rw [List.append_nil] at X144
    obtain ⟨cq146, kq146, q146a, q146b, q146c⟩ := isOf hZ0 Kq144 q135_4
    obtain ⟨_, _, ⟨T146, L146, k146, n146⟩, -, X146, ⟨Lc146, hQ146, l146, y146, z146⟩, st146⟩ := X144.virtualBack hx (y := (⟨"com/example/subsumer/subsumer/Role", "iri", "()Ljava/lang/String;"⟩ : MethodName)) (z := (⟨"com/example/subsumer/subsumer/Role", "iri", "()Ljava/lang/String;"⟩ : MethodName)) hown0 (mvT hZ0 (w_53 hw)) (mvT hZ0 (w_54 hw)) (notFace_of_selects (args := #[]) (mvT hZ0 (w_56 hw))) (mvT hZ0 (w_56 hw)) (mvT hZ0 (w_55 hw)) (by decide) (backOf (W := 1) (rm_iri l Z a0 hw [] b_135 b119 T135.heap n0 f140 q135_6) hZ0 (w_57 hw) (w_32 hw) (by decide) (by decide)) q146a q146c (g := (mkF mM 146 Ls142 [(.ref b_135), (.ref b119)])) rfl (by rw [hml]; rfl) (Steps.refl _) (argsL := []) (rest := [(.ref b119)]) (lenOf pd_8 rfl) rfl (by show 2 * 0 + _ ≤ _; exact Nat.le_of_eq rfl) (hb hby at_146) (fun _ _ => ⟨rfl, Kq144, (by decide : 6 + 0 ≤ _), (by decide : 16 + 0 ≤ _)⟩)
    dsimp only [Pt.U, Pt.locs, Pt.cells, Pt.slots] at X146 l146 y146 z146 st146 hQ146
    subst l146 y146 z146
    obtain ⟨rfl, rfl, Kq146⟩ := hQ146
    try rw [List.append_nil] at X146
    obtain ⟨cq147, kq147, q147a, q147b, q147c⟩ := isOf hZ0 Kq146 f145
    obtain ⟨_, _, ⟨T147, L147, k147, n147⟩, -, X147, ⟨Lc147, hQ147, l147, y147, z147⟩, st147⟩ := X146.virtualBack hx (y := (⟨"java/lang/String", "equals", "(Ljava/lang/Object;)Z"⟩ : MethodName)) (z := (⟨"java/lang/String", "equals", "(Ljava/lang/Object;)Z"⟩ : MethodName)) hown0 (mvT hZ0 (w_58 hw)) (mvT hZ0 (w_59 hw)) (notFace_of_selects (args := #[]) (mvT hZ0 (w_61 hw))) (mvT hZ0 (w_61 hw)) (mvT hZ0 (w_60 hw)) (by decide) (backOf (W := 0) (rm_seqs l Z a0 hw [] b119 T135.heap n0 f140 ) hZ0 (w_62 hw) (w_3 hw) (by decide) (by decide)) q147a q147c (g := (mkF mM 149 Ls142 [(.ref b119), (.ref b119)])) rfl (by rw [hml]; rfl) (Steps.refl _) (argsL := [(.ref b119)]) (rest := []) (lenOf pd_9 rfl) rfl (by show 2 * 0 + _ ≤ _; exact Nat.le_of_eq rfl) (hb hby at_149) (fun _ _ => ⟨rfl, Kq146, (by decide : 6 + 0 ≤ _), (by decide : 16 + 0 ≤ _)⟩)
    dsimp only [Pt.U, Pt.locs, Pt.cells, Pt.slots] at X147 l147 y147 z147 st147 hQ147
    subst l147 y147 z147
    obtain ⟨rfl, rfl, Kq147⟩ := hQ147
    try rw [List.append_nil] at X147
    let Ls148 : Array Slot := #[.val (.int p0), .val (.int p1), .val (.int p2), .val (.int p3), .val (.int p4), .val (.ref b1), .val (.ref b18), .val (.int (2 : Int32)), .val (.ref b119), .val (.int ((p3 + (1 : Int32)) + (p4 &&& (16383 : Int32)))), .val (.ref a_135), .val (.ref b_135), .val (.int (1 : Int32)), .unset, .unset, .unset]
    obtain ⟨cq149, kq149, q149a, q149b, q149c⟩ := isOf hZ0 Kq147 q135_3
    obtain ⟨_, _, ⟨T149, L149, k149, n149⟩, -, X149, ⟨Lc149, hQ149, l149, y149, z149⟩, st149⟩ := X147.virtualBack hx (y := (⟨"com/example/subsumer/subsumer/Role", "isInverse", "()Z"⟩ : MethodName)) (z := (⟨"com/example/subsumer/subsumer/Role", "isInverse", "()Z"⟩ : MethodName)) hown0 (mvT hZ0 (w_63 hw)) (mvT hZ0 (w_64 hw)) (notFace_of_selects (args := #[]) (mvT hZ0 (w_66 hw))) (mvT hZ0 (w_66 hw)) (mvT hZ0 (w_65 hw)) (by decide) (backOf (W := 0) (rm_isi l Z a0 hw [] a_135 (0 : Int32) T135.heap n0 f140 q135_9 (rfl : nar .boolean (0 : Int32) = (0 : Int32))) hZ0 (w_67 hw) (w_32 hw) (by decide) (by decide)) q149a q149c (g := (mkF mM 169 Ls148 [(.ref a_135)])) rfl (by rw [hml]; rfl) (Steps.refl _) (argsL := []) (rest := []) (lenOf pd_10 rfl) rfl (by show 2 * 0 + _ ≤ _; exact Nat.le_of_eq rfl) (hb hby at_169) (fun _ _ => ⟨rfl, Kq147, (by decide : 6 + 0 ≤ _), (by decide : 16 + 0 ≤ _)⟩)
    dsimp only [Pt.U, Pt.locs, Pt.cells, Pt.slots] at X149 l149 y149 z149 st149 hQ149
    subst l149 y149 z149
    obtain ⟨rfl, rfl, Kq149⟩ := hQ149
    try rw [List.append_nil] at X149
    obtain ⟨cq150, kq150, q150a, q150b, q150c⟩ := isOf hZ0 Kq149 q135_4
    obtain ⟨_, _, ⟨T150, L150, k150, n150⟩, -, X150, ⟨Lc150, hQ150, l150, y150, z150⟩, st150⟩ := X149.virtualBack hx (y := (⟨"com/example/subsumer/subsumer/Role", "isInverse", "()Z"⟩ : MethodName)) (z := (⟨"com/example/subsumer/subsumer/Role", "isInverse", "()Z"⟩ : MethodName)) hown0 (mvT hZ0 (w_63 hw)) (mvT hZ0 (w_64 hw)) (notFace_of_selects (args := #[]) (mvT hZ0 (w_66 hw))) (mvT hZ0 (w_66 hw)) (mvT hZ0 (w_65 hw)) (by decide) (backOf (W := 0) (rm_isi l Z a0 hw [] b_135 (1 : Int32) T135.heap n0 f140 q135_10 (rfl : nar .boolean (1 : Int32) = (1 : Int32))) hZ0 (w_67 hw) (w_32 hw) (by decide) (by decide)) q150a q150c (g := (mkF mM 177 Ls148 [(.ref b_135)])) rfl (by rw [hml]; rfl) (Steps.refl _) (argsL := []) (rest := []) (lenOf pd_10 rfl) rfl (by show 2 * 0 + _ ≤ _; exact Nat.le_of_eq rfl) (hb hby at_177) (fun _ _ => ⟨rfl, Kq149, (by decide : 6 + 0 ≤ _), (by decide : 16 + 0 ≤ _)⟩)
    dsimp only [Pt.U, Pt.locs, Pt.cells, Pt.slots] at X150 l150 y150 z150 st150 hQ150
    subst l150 y150 z150
    obtain ⟨rfl, rfl, Kq150⟩ := hQ150
    try rw [List.append_nil] at X150
    let Ls151 : Array Slot := #[.val (.int p0), .val (.int p1), .val (.int p2), .val (.int p3), .val (.int p4), .val (.ref b1), .val (.ref b18), .val (.int (2 : Int32)), .val (.ref b119), .val (.int ((p3 + (1 : Int32)) + (p4 &&& (16383 : Int32)))), .val (.ref a_135), .val (.ref b_135), .val (.int (1 : Int32)), .unset, .unset, .unset]
    obtain ⟨cq152, kq152, q152a, q152b, q152c⟩ := isOf hZ0 Kq150 q135_4
    obtain ⟨_, _, ⟨T152, L152, k152, n152⟩, -, X152, ⟨Lc152, hQ152, l152, y152, z152⟩, st152⟩ := X150.virtualBack hx (y := (⟨"com/example/subsumer/subsumer/Role", "inverse", "()Lcom/example/subsumer/subsumer/Role;"⟩ : MethodName)) (z := (⟨"com/example/subsumer/subsumer/Role", "inverse", "()Lcom/example/subsumer/subsumer/Role;"⟩ : MethodName)) hown0 (mvT hZ0 (w_48 hw)) (mvT hZ0 (w_49 hw)) (notFace_of_selects (args := #[]) (mvT hZ0 (w_51 hw))) (mvT hZ0 (w_51 hw)) (mvT hZ0 (w_50 hw)) (by decide) (backOf (W := 0) (rm_inv l Z a0 hw [] b_135 a_135 T135.heap n0 f140 q135_12) hZ0 (w_52 hw) (w_32 hw) (by decide) (by decide)) q152a q152c (g := (mkF mM 197 Ls151 [(.ref b_135)])) rfl (by rw [hml]; rfl) (Steps.refl _) (argsL := []) (rest := []) (lenOf pd_7 rfl) rfl (by show 2 * 0 + _ ≤ _; exact Nat.le_of_eq rfl) (hb hby at_197) (fun _ _ => ⟨rfl, Kq150, (by decide : 6 + 0 ≤ _), (by decide : 16 + 0 ≤ _)⟩)
    dsimp only [Pt.U, Pt.locs, Pt.cells, Pt.slots] at X152 l152 y152 z152 st152 hQ152
    subst l152 y152 z152
    obtain ⟨rfl, rfl, Kq152⟩ := hQ152
    try rw [List.append_nil] at X152
    let Ls153 : Array Slot := #[.val (.int p0), .val (.int p1), .val (.int p2), .val (.int p3), .val (.int p4), .val (.ref b1), .val (.ref b18), .val (.int (2 : Int32)), .val (.ref b119), .val (.int ((p3 + (1 : Int32)) + (p4 &&& (16383 : Int32)))), .val (.ref a_135), .val (.ref b_135), .val (.int (1 : Int32)), .unset, .unset, .unset]
    obtain ⟨cq154, kq154, q154a, q154b, q154c⟩ := isOf hZ0 Kq152 q135_3
    obtain ⟨_, _, ⟨T154, L154, k154, n154⟩, -, X154, ⟨Lc154, hQ154, l154, y154, z154⟩, st154⟩ := X152.virtualBack hx (y := (⟨"com/example/subsumer/subsumer/Role", "hashCode", "()I"⟩ : MethodName)) (z := (⟨"com/example/subsumer/subsumer/Role", "hashCode", "()I"⟩ : MethodName)) hown0 (mvT hZ0 (w_68 hw)) (mvT hZ0 (w_69 hw)) (notFace_of_selects (args := #[]) (mvT hZ0 (w_71 hw))) (mvT hZ0 (w_71 hw)) (mvT hZ0 (w_70 hw)) (by decide) (backOf (W := 0) (rm_hsh l Z a0 hw [] a_135 ((2 : Int32) * p3) T135.heap n0 f140 q135_7) hZ0 (w_72 hw) (w_32 hw) (by decide) (by decide)) q154a q154c (g := (mkF mM 214 Ls153 [(.ref a_135)])) rfl (by rw [hml]; rfl) (Steps.refl _) (argsL := []) (rest := []) (lenOf pd_11 rfl) rfl (by show 2 * 0 + _ ≤ _; exact Nat.le_of_eq rfl) (hb hby at_214) (fun _ _ => ⟨rfl, Kq152, (by decide : 6 + 0 ≤ _), (by decide : 16 + 0 ≤ _)⟩)
    dsimp only [Pt.U, Pt.locs, Pt.cells, Pt.slots] at X154 l154 y154 z154 st154 hQ154
    subst l154 y154 z154
    obtain ⟨rfl, rfl, Kq154⟩ := hQ154
    try rw [List.append_nil] at X154
    let Ls155 : Array Slot := #[.val (.int p0), .val (.int p1), .val (.int p2), .val (.int p3), .val (.int p4), .val (.ref b1), .val (.ref b18), .val (.int (2 : Int32)), .val (.ref b119), .val (.int ((p3 + (1 : Int32)) + (p4 &&& (16383 : Int32)))), .val (.ref a_135), .val (.ref b_135), .val (.int (1 : Int32)), .val (.int ((2 : Int32) * p3)), .unset, .unset]
    obtain ⟨cq156, kq156, q156a, q156b, q156c⟩ := isOf hZ0 Kq154 q135_4
    obtain ⟨_, _, ⟨T156, L156, k156, n156⟩, -, X156, ⟨Lc156, hQ156, l156, y156, z156⟩, st156⟩ := X154.virtualBack hx (y := (⟨"com/example/subsumer/subsumer/Role", "hashCode", "()I"⟩ : MethodName)) (z := (⟨"com/example/subsumer/subsumer/Role", "hashCode", "()I"⟩ : MethodName)) hown0 (mvT hZ0 (w_68 hw)) (mvT hZ0 (w_69 hw)) (notFace_of_selects (args := #[]) (mvT hZ0 (w_71 hw))) (mvT hZ0 (w_71 hw)) (mvT hZ0 (w_70 hw)) (by decide) (backOf (W := 0) (rm_hsh l Z a0 hw [] b_135 (((2 : Int32) * p3) + (1 : Int32)) T135.heap n0 f140 q135_8) hZ0 (w_72 hw) (w_32 hw) (by decide) (by decide)) q156a q156c (g := (mkF mM 221 Ls155 [(.ref b_135)])) rfl (by rw [hml]; rfl) (Steps.refl _) (argsL := []) (rest := []) (lenOf pd_11 rfl) rfl (by show 2 * 0 + _ ≤ _; exact Nat.le_of_eq rfl) (hb hby at_221) (fun _ _ => ⟨rfl, Kq154, (by decide : 6 + 0 ≤ _), (by decide : 16 + 0 ≤ _)⟩)
    dsimp only [Pt.U, Pt.locs, Pt.cells, Pt.slots] at X156 l156 y156 z156 st156 hQ156
    subst l156 y156 z156
    obtain ⟨rfl, rfl, Kq156⟩ := hQ156
    try rw [List.append_nil] at X156
    let Ls157 : Array Slot := #[.val (.int p0), .val (.int p1), .val (.int p2), .val (.int p3), .val (.int p4), .val (.ref b1), .val (.ref b18), .val (.int (2 : Int32)), .val (.ref b119), .val (.int ((p3 + (1 : Int32)) + (p4 &&& (16383 : Int32)))), .val (.ref a_135), .val (.ref b_135), .val (.int (1 : Int32)), .val (.int ((2 : Int32) * p3)), .val (.int (((2 : Int32) * p3) + (1 : Int32))), .unset]
    let Ls158 : Array Slot := #[.val (.int p0), .val (.int p1), .val (.int p2), .val (.int p3), .val (.int p4), .val (.ref b1), .val (.ref b18), .val (.int (2 : Int32)), .val (.ref b119), .val (.int ((p3 + (1 : Int32)) + (p4 &&& (16383 : Int32)))), .val (.ref a_135), .val (.ref b_135), .val (.int (1 : Int32)), .val (.int ((2 : Int32) * p3)), .val (.int (((2 : Int32) * p3) + (1 : Int32))), .unset]
    obtain ⟨_, _, ⟨T159, L159, k159, n159⟩, -, X159, ⟨Lc159, hQ159, l159, y159, z159⟩, st159⟩ := Jvm.LawKit.callS X156 hx (y := (⟨"com/example/subsumer/subsumer/Role", "property", "(Ljava/lang/String;I)Lcom/example/subsumer/subsumer/Role;"⟩ : MethodName)) hown0 (mvT hZ0 (w_30 hw)) (mvT hZ0 (w_31 hw)) (mvT hZ0 (w_32 hw)) (mvT hZ0 (w_33 hw)) (by decide) (backOf (W := 0) (rm_prop l Z a0 hw [] b119 ((p3 + (1 : Int32)) + (p4 &&& (16383 : Int32))) T135.heap n0 f140 ) hZ0 (w_33 hw) (w_32 hw) (by decide) (by decide)) (g := (mkF mM 258 Ls158 [(.int ((p3 + (1 : Int32)) + (p4 &&& (16383 : Int32)))), (.ref b119)])) rfl (by rw [hml]; rfl) (argsL := [(.ref b119), (.int ((p3 + (1 : Int32)) + (p4 &&& (16383 : Int32))))]) (rest := []) (lenOf pd_6 rfl) rfl (by show 2 * 0 + _ ≤ _; exact Nat.le_of_eq rfl) (hb hby at_258) (fun _ _ => ⟨rfl, Kq156, (by decide : 6 + 2 ≤ _), (by decide : 16 + 8 ≤ _)⟩)
    dsimp only [Pt.U, Pt.locs, Pt.cells, Pt.slots] at X159 l159 y159 z159 st159 hQ159
    subst l159 y159 z159
    obtain ⟨a_159, b_159, rfl, Nq159, Kq159, q159_0, q159_1, q159_2, q159_3, q159_4, q159_5, q159_6, q159_7, q159_8, q159_9, q159_10, q159_11, q159_12⟩ := hQ159
    have N159 := Fr.app N135 Nq159
    have g_a_159 : n0 ≤ a_159 := Nat.le_trans (own_osz f140) q159_0
    have sz_a_159 : h0.size ≤ a_159 := Nat.le_trans K138.1 q159_0
    have g_b_159 : n0 ≤ b_159 := Nat.le_trans (own_osz f140) q159_1
    have sz_b_159 : h0.size ≤ b_159 := Nat.le_trans K138.1 q159_1
    have CH160 : CHr Z own_EL sS.vm h0 sS.vm T159.heap := CH136.trans (CHr.keep Kq159 sf0 CH136.1)
    have hk161 := Nat.le_trans hk137 Kq159.1
    have K162 : Keep h0 T159.heap [] := K138.trans Kq159 all0
    let Ls163 : Array Slot := #[.val (.int p0), .val (.int p1), .val (.int p2), .val (.int p3), .val (.int p4), .val (.ref b1), .val (.ref b18), .val (.int (2 : Int32)), .val (.ref b119), .val (.int ((p3 + (1 : Int32)) + (p4 &&& (16383 : Int32)))), .val (.ref a_135), .val (.ref b_135), .val (.int (1 : Int32)), .val (.int ((2 : Int32) * p3)), .val (.int (((2 : Int32) * p3) + (1 : Int32))), .val (.ref a_159)]
    have f164 := (f140.keep Kq159 all0)
    obtain ⟨cq165, kq165, q165a, q165b, q165c⟩ := isOf hZ0 rfl q159_3
    obtain ⟨_, _, ⟨T165, L165, k165, n165⟩, -, X165, ⟨Lc165, hQ165, l165, y165, z165⟩, st165⟩ := X159.virtualBack hx (y := (⟨"com/example/subsumer/subsumer/Role", "hashCode", "()I"⟩ : MethodName)) (z := (⟨"com/example/subsumer/subsumer/Role", "hashCode", "()I"⟩ : MethodName)) hown0 (mvT hZ0 (w_68 hw)) (mvT hZ0 (w_69 hw)) (notFace_of_selects (args := #[]) (mvT hZ0 (w_71 hw))) (mvT hZ0 (w_71 hw)) (mvT hZ0 (w_70 hw)) (by decide) (backOf (W := 0) (rm_hsh l Z a0 hw [] a_159 ((2 : Int32) * ((p3 + (1 : Int32)) + (p4 &&& (16383 : Int32)))) T159.heap n0 f164 q159_7) hZ0 (w_72 hw) (w_32 hw) (by decide) (by decide)) q165a q165c (g := (mkF mM 277 Ls163 [(.ref a_159)])) rfl (by rw [hml]; rfl) (Steps.refl _) (argsL := []) (rest := []) (lenOf pd_11 rfl) rfl (by show 2 * 0 + _ ≤ _; exact Nat.le_of_eq rfl) (hb hby at_277) (fun _ _ => ⟨rfl, rfl, (by decide : 8 + 0 ≤ _), (by decide : 24 + 0 ≤ _)⟩)
    dsimp only [Pt.U, Pt.locs, Pt.cells, Pt.slots] at X165 l165 y165 z165 st165 hQ165
    subst l165 y165 z165
    obtain ⟨rfl, rfl, Kq165⟩ := hQ165
    try rw [List.append_nil] at X165
    let Ls166 : Array Slot := #[.val (.int p0), .val (.int p1), .val (.int p2), .val (.int p3), .val (.int p4), .val (.ref b1), .val (.ref b18), .val (.int (2 : Int32)), .val (.ref b119), .val (.int ((p3 + (1 : Int32)) + (p4 &&& (16383 : Int32)))), .val (.ref a_135), .val (.ref b_135), .val (.int (1 : Int32)), .val (.int ((2 : Int32) * p3)), .val (.int (((2 : Int32) * p3) + (1 : Int32))), .val (.ref a_159)]
    obtain ⟨fs, hr, hrun, hended, hR1, hR2, hR3, hR4⟩ := Stand.leaveW (s := sS) (vm₁ := sS.vm) X165 hS0 (by rw [Kq165]; exact hk161) (v := some (.int (1 : Int32))) (fun h => by rw [Bd.returns] at h; cases h)
    refine ⟨_, _, pre24 _ ?_, hrun, hended, _, _, rfl, ?_, ?_, hR1, hR2, hR3, hR4.mono (by decide) (by decide)⟩
    · refine XS.iloadN X18.here hx rfl (hb hby at_28) rfl ?_
      show Steps pP.tables eE below (T18.setTop (mkF mM 29 Ls23 [(.int p2)])) _
      refine XS.iconst X18.here hx rfl (hb hby at_29) ?_
      show Steps pP.tables eE below (T18.setTop (mkF mM 30 Ls23 [(.int (3 : Int32)), (.int p2)])) _
      refine XS.iand X18.here hx rfl (hb hby at_30) rfl ?_
      show Steps pP.tables eE below (T18.setTop (mkF mM 31 Ls23 [(.int (p2 &&& (3 : Int32)))])) _
      rw [hk]
      show Steps pP.tables eE below (T18.setTop (mkF mM 31 Ls23 [(.int (2 : Int32))])) _
      refine XS.istore X18.here hx rfl (hb hby at_31) rfl (l' := Ls118) rfl ?_
      show Steps pP.tables eE below (T18.setTop (mkF mM 33 Ls118 [])) _
      refine XS.iload X18.here hx rfl (hb hby at_33) rfl ?_
      show Steps pP.tables eE below (T18.setTop (mkF mM 35 Ls118 [(.int (2 : Int32))])) _
      refine XS.ifYes X18.here hx rfl (pc0 := 35) (pc' := 52) rfl (hb hby at_35) rfl ((if0 _ _).trans (feq (by decide : ¬ ((2 : Int32) = (0 : Int32)))).2) (by decide) (by decide) ?_
      show Steps pP.tables eE below (T18.setTop (mkF mM 52 Ls118 [])) _
      refine XS.iload X18.here hx rfl (hb hby at_52) rfl ?_
      show Steps pP.tables eE below (T18.setTop (mkF mM 54 Ls118 [(.int (2 : Int32))])) _
      refine XS.iconst X18.here hx rfl (hb hby at_54) ?_
      show Steps pP.tables eE below (T18.setTop (mkF mM 55 Ls118 [(.int (1 : Int32)), (.int (2 : Int32))])) _
      refine XS.icmpYes X18.here hx rfl (pc0 := 55) (pc' := 70) rfl (hb hby at_55) rfl (feq (by decide : ¬ ((2 : Int32) = (1 : Int32)))).2 (by decide) (by decide) ?_
      show Steps pP.tables eE below (T18.setTop (mkF mM 70 Ls118 [])) _
      refine st119 _ ?_
      show Steps pP.tables eE below (T119.setTop (mkF mM 73 Ls118 [(.ref b119)])) _
      refine XS.dup X119.here hx rfl (hb hby at_73) rfl rfl ?_
      show Steps pP.tables eE below (T119.setTop (mkF mM 74 Ls118 [(.ref b119), (.ref b119)])) _
      refine XS.aload X119.here hx rfl (hb hby at_74) rfl rfl ?_
      show Steps pP.tables eE below (T119.setTop (mkF mM 76 Ls118 [(.ref b1), (.ref b119), (.ref b119)])) _
      refine st126.trans ?_
      show Steps pP.tables eE below (T126.setTop (mkF mM 79 Ls118 [(.ref b119)])) _
      refine XS.astore X126.here hx rfl (hb hby at_79) rfl rfl (l' := Ls132) rfl ?_
      show Steps pP.tables eE below (T126.setTop (mkF mM 81 Ls132 [])) _
      refine XS.iloadN X126.here hx rfl (hb hby at_81) rfl ?_
      show Steps pP.tables eE below (T126.setTop (mkF mM 82 Ls132 [(.int p3)])) _
      refine XS.iconst X126.here hx rfl (hb hby at_82) ?_
      show Steps pP.tables eE below (T126.setTop (mkF mM 83 Ls132 [(.int (1 : Int32)), (.int p3)])) _
      refine XS.iadd X126.here hx rfl (hb hby at_83) rfl ?_
      show Steps pP.tables eE below (T126.setTop (mkF mM 84 Ls132 [(.int (p3 + (1 : Int32)))])) _
      refine XS.iload X126.here hx rfl (hb hby at_84) rfl ?_
      show Steps pP.tables eE below (T126.setTop (mkF mM 86 Ls132 [(.int p4), (.int (p3 + (1 : Int32)))])) _
      refine XS.sipush X126.here hx rfl (hb hby at_86) ?_
      show Steps pP.tables eE below (T126.setTop (mkF mM 89 Ls132 [(.int (16383 : Int32)), (.int p4), (.int (p3 + (1 : Int32)))])) _
      refine XS.iand X126.here hx rfl (hb hby at_89) rfl ?_
      show Steps pP.tables eE below (T126.setTop (mkF mM 90 Ls132 [(.int (p4 &&& (16383 : Int32))), (.int (p3 + (1 : Int32)))])) _
      refine XS.iadd X126.here hx rfl (hb hby at_90) rfl ?_
      show Steps pP.tables eE below (T126.setTop (mkF mM 91 Ls132 [(.int ((p3 + (1 : Int32)) + (p4 &&& (16383 : Int32))))])) _
      refine XS.istore X126.here hx rfl (hb hby at_91) rfl (l' := Ls133) rfl ?_
      show Steps pP.tables eE below (T126.setTop (mkF mM 93 Ls133 [])) _
      refine XS.aload X126.here hx rfl (hb hby at_93) rfl rfl ?_
      show Steps pP.tables eE below (T126.setTop (mkF mM 95 Ls133 [(.ref b119)])) _
      refine XS.iloadN X126.here hx rfl (hb hby at_95) rfl ?_
      show Steps pP.tables eE below (T126.setTop (mkF mM 96 Ls133 [(.int p3), (.ref b119)])) _
      refine st135 _ ?_
      show Steps pP.tables eE below (T135.setTop (mkF mM 99 Ls133 [(.ref a_135)])) _
      refine XS.astore X135.here hx rfl (hb hby at_99) rfl rfl (l' := Ls139) rfl ?_
      show Steps pP.tables eE below (T135.setTop (mkF mM 101 Ls139 [])) _
      refine XS.aload X135.here hx rfl (hb hby at_101) rfl rfl ?_
      show Steps pP.tables eE below (T135.setTop (mkF mM 103 Ls139 [(.ref a_135)])) _
      refine XS.ifnonnullYes X135.here hx rfl (pc0 := 103) (pc' := 108) rfl (hb hby at_103) rfl (by decide) (by decide) ?_
      show Steps pP.tables eE below (T135.setTop (mkF mM 108 Ls139 [])) _
      refine XS.aload X135.here hx rfl (hb hby at_108) rfl rfl ?_
      show Steps pP.tables eE below (T135.setTop (mkF mM 110 Ls139 [(.ref a_135)])) _
      refine st141.trans ?_
      show Steps pP.tables eE below (T141.setTop (mkF mM 113 Ls139 [(.ref b_135)])) _
      refine XS.astore X141.here hx rfl (hb hby at_113) rfl rfl (l' := Ls142) rfl ?_
      show Steps pP.tables eE below (T141.setTop (mkF mM 115 Ls142 [])) _
      refine XS.aload X141.here hx rfl (hb hby at_115) rfl rfl ?_
      show Steps pP.tables eE below (T141.setTop (mkF mM 117 Ls142 [(.ref b_135)])) _
      refine XS.ifnullNo X141.here hx rfl (hb hby at_117) rfl ?_
      show Steps pP.tables eE below (T141.setTop (mkF mM 120 Ls142 [])) _
      refine XS.aload X141.here hx rfl (hb hby at_120) rfl rfl ?_
      show Steps pP.tables eE below (T141.setTop (mkF mM 122 Ls142 [(.ref b_135)])) _
      refine XS.aload X141.here hx rfl (hb hby at_122) rfl rfl ?_
      show Steps pP.tables eE below (T141.setTop (mkF mM 124 Ls142 [(.ref a_135), (.ref b_135)])) _
      refine Jvm.RoadKit.acmp (g := (mkF mM 124 Ls142 [(.ref a_135), (.ref b_135)])) X141 hx rfl rfl rfl (pc0 := 124) (pc' := 129) (same := false) rfl (hb hby at_124) rfl (decide_eq_false fun q => (Ne.symm q135_2) (Value.ref.inj q)) (by decide) (by decide) ?_
      show Steps pP.tables eE below (T141.setTop (mkF mM 129 Ls142 [])) _
      refine XS.aload X141.here hx rfl (hb hby at_129) rfl rfl ?_
      show Steps pP.tables eE below (T141.setTop (mkF mM 131 Ls142 [(.ref b119)])) _
      refine XS.aload X141.here hx rfl (hb hby at_131) rfl rfl ?_
      show Steps pP.tables eE below (T141.setTop (mkF mM 133 Ls142 [(.ref a_135), (.ref b119)])) _
      refine st143.trans ?_
      show Steps pP.tables eE below (T143.setTop (mkF mM 136 Ls142 [(.ref b119), (.ref b119)])) _
      refine st144.trans ?_
      show Steps pP.tables eE below (T144.setTop (mkF mM 139 Ls142 [(.int (1 : Int32))])) _
      refine XS.ifNo X144.here hx rfl (hb hby at_139) rfl ((if0 _ _).trans (feq (by decide : ¬ ((1 : Int32) = (0 : Int32)))).1) ?_
      show Steps pP.tables eE below (T144.setTop (mkF mM 142 Ls142 [])) _
      refine XS.aload X144.here hx rfl (hb hby at_142) rfl rfl ?_
      show Steps pP.tables eE below (T144.setTop (mkF mM 144 Ls142 [(.ref b119)])) _
      refine XS.aload X144.here hx rfl (hb hby at_144) rfl rfl ?_
      show Steps pP.tables eE below (T144.setTop (mkF mM 146 Ls142 [(.ref b_135), (.ref b119)])) _
      refine st146.trans ?_
      show Steps pP.tables eE below (T146.setTop (mkF mM 149 Ls142 [(.ref b119), (.ref b119)])) _
      refine st147.trans ?_
      show Steps pP.tables eE below (T147.setTop (mkF mM 152 Ls142 [(.int (1 : Int32))])) _
      refine XS.ifNo X147.here hx rfl (hb hby at_152) rfl ((if0 _ _).trans (feq (by decide : ¬ ((1 : Int32) = (0 : Int32)))).1) ?_
      show Steps pP.tables eE below (T147.setTop (mkF mM 155 Ls142 [])) _
      refine XS.iconst X147.here hx rfl (hb hby at_155) ?_
      show Steps pP.tables eE below (T147.setTop (mkF mM 156 Ls142 [(.int (1 : Int32))])) _
      refine XS.goto X147.here hx rfl (pc0 := 156) (pc' := 160) rfl (hb hby at_156) (by decide) (by decide) ?_
      show Steps pP.tables eE below (T147.setTop (mkF mM 160 Ls142 [(.int (1 : Int32))])) _
      refine XS.istore X147.here hx rfl (hb hby at_160) rfl (l' := Ls148) rfl ?_
      show Steps pP.tables eE below (T147.setTop (mkF mM 162 Ls148 [])) _
      refine XS.iload X147.here hx rfl (hb hby at_162) rfl ?_
      show Steps pP.tables eE below (T147.setTop (mkF mM 164 Ls148 [(.int (1 : Int32))])) _
      refine XS.ifNo X147.here hx rfl (hb hby at_164) rfl ((if0 _ _).trans (feq (by decide : ¬ ((1 : Int32) = (0 : Int32)))).1) ?_
      show Steps pP.tables eE below (T147.setTop (mkF mM 167 Ls148 [])) _
      refine XS.aload X147.here hx rfl (hb hby at_167) rfl rfl ?_
      show Steps pP.tables eE below (T147.setTop (mkF mM 169 Ls148 [(.ref a_135)])) _
      refine st149.trans ?_
      show Steps pP.tables eE below (T149.setTop (mkF mM 172 Ls148 [(.int (0 : Int32))])) _
      refine XS.ifNo X149.here hx rfl (hb hby at_172) rfl ((if0 _ _).trans (teq (by decide : (0 : Int32) = (0 : Int32))).2) ?_
      show Steps pP.tables eE below (T149.setTop (mkF mM 175 Ls148 [])) _
      refine XS.aload X149.here hx rfl (hb hby at_175) rfl rfl ?_
      show Steps pP.tables eE below (T149.setTop (mkF mM 177 Ls148 [(.ref b_135)])) _
      refine st150.trans ?_
      show Steps pP.tables eE below (T150.setTop (mkF mM 180 Ls148 [(.int (1 : Int32))])) _
      refine XS.ifNo X150.here hx rfl (hb hby at_180) rfl ((if0 _ _).trans (feq (by decide : ¬ ((1 : Int32) = (0 : Int32)))).1) ?_
      show Steps pP.tables eE below (T150.setTop (mkF mM 183 Ls148 [])) _
      refine XS.iconst X150.here hx rfl (hb hby at_183) ?_
      show Steps pP.tables eE below (T150.setTop (mkF mM 184 Ls148 [(.int (1 : Int32))])) _
      refine XS.goto X150.here hx rfl (pc0 := 184) (pc' := 188) rfl (hb hby at_184) (by decide) (by decide) ?_
      show Steps pP.tables eE below (T150.setTop (mkF mM 188 Ls148 [(.int (1 : Int32))])) _
      refine XS.istore X150.here hx rfl (hb hby at_188) rfl (l' := Ls151) rfl ?_
      show Steps pP.tables eE below (T150.setTop (mkF mM 190 Ls151 [])) _
      refine XS.iload X150.here hx rfl (hb hby at_190) rfl ?_
      show Steps pP.tables eE below (T150.setTop (mkF mM 192 Ls151 [(.int (1 : Int32))])) _
      refine XS.ifNo X150.here hx rfl (hb hby at_192) rfl ((if0 _ _).trans (feq (by decide : ¬ ((1 : Int32) = (0 : Int32)))).1) ?_
      show Steps pP.tables eE below (T150.setTop (mkF mM 195 Ls151 [])) _
      refine XS.aload X150.here hx rfl (hb hby at_195) rfl rfl ?_
      show Steps pP.tables eE below (T150.setTop (mkF mM 197 Ls151 [(.ref b_135)])) _
      refine st152.trans ?_
      show Steps pP.tables eE below (T152.setTop (mkF mM 200 Ls151 [(.ref a_135)])) _
      refine XS.aload X152.here hx rfl (hb hby at_200) rfl rfl ?_
      show Steps pP.tables eE below (T152.setTop (mkF mM 202 Ls151 [(.ref a_135), (.ref a_135)])) _
      refine Jvm.RoadKit.acmp (g := (mkF mM 202 Ls151 [(.ref a_135), (.ref a_135)])) X152 hx rfl rfl rfl (pc0 := 202) (pc' := 205) (same := true) rfl (hb hby at_202) rfl (decide_eq_true rfl) (by decide) (by decide) ?_
      show Steps pP.tables eE below (T152.setTop (mkF mM 205 Ls151 [])) _
      refine XS.iconst X152.here hx rfl (hb hby at_205) ?_
      show Steps pP.tables eE below (T152.setTop (mkF mM 206 Ls151 [(.int (1 : Int32))])) _
      refine XS.goto X152.here hx rfl (pc0 := 206) (pc' := 210) rfl (hb hby at_206) (by decide) (by decide) ?_
      show Steps pP.tables eE below (T152.setTop (mkF mM 210 Ls151 [(.int (1 : Int32))])) _
      refine XS.istore X152.here hx rfl (hb hby at_210) rfl (l' := Ls153) rfl ?_
      show Steps pP.tables eE below (T152.setTop (mkF mM 212 Ls153 [])) _
      refine XS.aload X152.here hx rfl (hb hby at_212) rfl rfl ?_
      show Steps pP.tables eE below (T152.setTop (mkF mM 214 Ls153 [(.ref a_135)])) _
      refine st154.trans ?_
      show Steps pP.tables eE below (T154.setTop (mkF mM 217 Ls153 [(.int ((2 : Int32) * p3))])) _
      refine XS.istore X154.here hx rfl (hb hby at_217) rfl (l' := Ls155) rfl ?_
      show Steps pP.tables eE below (T154.setTop (mkF mM 219 Ls155 [])) _
      refine XS.aload X154.here hx rfl (hb hby at_219) rfl rfl ?_
      show Steps pP.tables eE below (T154.setTop (mkF mM 221 Ls155 [(.ref b_135)])) _
      refine st156.trans ?_
      show Steps pP.tables eE below (T156.setTop (mkF mM 224 Ls155 [(.int (((2 : Int32) * p3) + (1 : Int32)))])) _
      refine XS.istore X156.here hx rfl (hb hby at_224) rfl (l' := Ls157) rfl ?_
      show Steps pP.tables eE below (T156.setTop (mkF mM 226 Ls157 [])) _
      refine XS.iload X156.here hx rfl (hb hby at_226) rfl ?_
      show Steps pP.tables eE below (T156.setTop (mkF mM 228 Ls157 [(.int (1 : Int32))])) _
      refine XS.ifNo X156.here hx rfl (hb hby at_228) rfl ((if0 _ _).trans (feq (by decide : ¬ ((1 : Int32) = (0 : Int32)))).1) ?_
      show Steps pP.tables eE below (T156.setTop (mkF mM 231 Ls157 [])) _
      refine XS.iload X156.here hx rfl (hb hby at_231) rfl ?_
      show Steps pP.tables eE below (T156.setTop (mkF mM 233 Ls157 [(.int ((2 : Int32) * p3))])) _
      refine XS.iconst X156.here hx rfl (hb hby at_233) ?_
      show Steps pP.tables eE below (T156.setTop (mkF mM 234 Ls157 [(.int (1 : Int32)), (.int ((2 : Int32) * p3))])) _
      refine XS.iand X156.here hx rfl (hb hby at_234) rfl ?_
      show Steps pP.tables eE below (T156.setTop (mkF mM 235 Ls157 [(.int (((2 : Int32) * p3) &&& (1 : Int32)))])) _
      refine XS.ifNo X156.here hx rfl (hb hby at_235) rfl ((if0 _ _).trans (teq (own_even p3)).2) ?_
      show Steps pP.tables eE below (T156.setTop (mkF mM 238 Ls157 [])) _
      refine XS.iload X156.here hx rfl (hb hby at_238) rfl ?_
      show Steps pP.tables eE below (T156.setTop (mkF mM 240 Ls157 [(.int (((2 : Int32) * p3) + (1 : Int32)))])) _
      refine XS.iload X156.here hx rfl (hb hby at_240) rfl ?_
      show Steps pP.tables eE below (T156.setTop (mkF mM 242 Ls157 [(.int ((2 : Int32) * p3)), (.int (((2 : Int32) * p3) + (1 : Int32)))])) _
      refine XS.iconst X156.here hx rfl (hb hby at_242) ?_
      show Steps pP.tables eE below (T156.setTop (mkF mM 243 Ls157 [(.int (1 : Int32)), (.int ((2 : Int32) * p3)), (.int (((2 : Int32) * p3) + (1 : Int32)))])) _
      refine XS.iadd X156.here hx rfl (hb hby at_243) rfl ?_
      show Steps pP.tables eE below (T156.setTop (mkF mM 244 Ls157 [(.int (((2 : Int32) * p3) + (1 : Int32))), (.int (((2 : Int32) * p3) + (1 : Int32)))])) _
      refine XS.icmpNo X156.here hx rfl (hb hby at_244) rfl (teq (rfl : (((2 : Int32) * p3) + (1 : Int32)) = (((2 : Int32) * p3) + (1 : Int32)))).2 ?_
      show Steps pP.tables eE below (T156.setTop (mkF mM 247 Ls157 [])) _
      refine XS.iconst X156.here hx rfl (hb hby at_247) ?_
      show Steps pP.tables eE below (T156.setTop (mkF mM 248 Ls157 [(.int (1 : Int32))])) _
      refine XS.goto X156.here hx rfl (pc0 := 248) (pc' := 252) rfl (hb hby at_248) (by decide) (by decide) ?_
      show Steps pP.tables eE below (T156.setTop (mkF mM 252 Ls157 [(.int (1 : Int32))])) _
      refine XS.istore X156.here hx rfl (hb hby at_252) rfl (l' := Ls158) rfl ?_
      show Steps pP.tables eE below (T156.setTop (mkF mM 254 Ls158 [])) _
      refine XS.aload X156.here hx rfl (hb hby at_254) rfl rfl ?_
      show Steps pP.tables eE below (T156.setTop (mkF mM 256 Ls158 [(.ref b119)])) _
      refine XS.iload X156.here hx rfl (hb hby at_256) rfl ?_
      show Steps pP.tables eE below (T156.setTop (mkF mM 258 Ls158 [(.int ((p3 + (1 : Int32)) + (p4 &&& (16383 : Int32)))), (.ref b119)])) _
      refine st159 _ ?_
      show Steps pP.tables eE below (T159.setTop (mkF mM 261 Ls158 [(.ref a_159)])) _
      refine XS.astore X159.here hx rfl (hb hby at_261) rfl rfl (l' := Ls163) rfl ?_
      show Steps pP.tables eE below (T159.setTop (mkF mM 263 Ls163 [])) _
      refine XS.iload X159.here hx rfl (hb hby at_263) rfl ?_
      show Steps pP.tables eE below (T159.setTop (mkF mM 265 Ls163 [(.int (1 : Int32))])) _
      refine XS.ifNo X159.here hx rfl (hb hby at_265) rfl ((if0 _ _).trans (feq (by decide : ¬ ((1 : Int32) = (0 : Int32)))).1) ?_
      show Steps pP.tables eE below (T159.setTop (mkF mM 268 Ls163 [])) _
      refine XS.aload X159.here hx rfl (hb hby at_268) rfl rfl ?_
      show Steps pP.tables eE below (T159.setTop (mkF mM 270 Ls163 [(.ref a_159)])) _
      refine XS.aload X159.here hx rfl (hb hby at_270) rfl rfl ?_
      show Steps pP.tables eE below (T159.setTop (mkF mM 272 Ls163 [(.ref a_135), (.ref a_159)])) _
      refine Jvm.RoadKit.acmp (g := (mkF mM 272 Ls163 [(.ref a_135), (.ref a_159)])) X159 hx rfl rfl rfl (pc0 := 272) (pc' := 275) (same := false) rfl (hb hby at_272) rfl (decide_eq_false fun q => (Ne.symm (Nat.ne_of_lt (Nat.lt_of_lt_of_le (q135_3).lt q159_0))) (Value.ref.inj q)) (by decide) (by decide) ?_
      show Steps pP.tables eE below (T159.setTop (mkF mM 275 Ls163 [])) _
      refine XS.aload X159.here hx rfl (hb hby at_275) rfl rfl ?_
      show Steps pP.tables eE below (T159.setTop (mkF mM 277 Ls163 [(.ref a_159)])) _
      refine st165.trans ?_
      show Steps pP.tables eE below (T165.setTop (mkF mM 280 Ls163 [(.int ((2 : Int32) * ((p3 + (1 : Int32)) + (p4 &&& (16383 : Int32)))))])) _
      refine XS.iload X165.here hx rfl (hb hby at_280) rfl ?_
      show Steps pP.tables eE below (T165.setTop (mkF mM 282 Ls163 [(.int ((2 : Int32) * p3)), (.int ((2 : Int32) * ((p3 + (1 : Int32)) + (p4 &&& (16383 : Int32)))))])) _
      refine XS.icmpNo X165.here hx rfl (hb hby at_282) rfl (feq (own_dif p3 p4)).1 ?_
      show Steps pP.tables eE below (T165.setTop (mkF mM 285 Ls163 [])) _
      refine XS.iconst X165.here hx rfl (hb hby at_285) ?_
      show Steps pP.tables eE below (T165.setTop (mkF mM 286 Ls163 [(.int (1 : Int32))])) _
      refine XS.goto X165.here hx rfl (pc0 := 286) (pc' := 290) rfl (hb hby at_286) (by decide) (by decide) ?_
      show Steps pP.tables eE below (T165.setTop (mkF mM 290 Ls163 [(.int (1 : Int32))])) _
      refine XS.istore X165.here hx rfl (hb hby at_290) rfl (l' := Ls166) rfl ?_
      show Steps pP.tables eE below (T165.setTop (mkF mM 292 Ls166 [])) _
      refine XS.iload X165.here hx rfl (hb hby at_292) rfl ?_
      show Steps pP.tables eE below (T165.setTop (mkF mM 294 Ls166 [(.int (1 : Int32))])) _
      exact retN X165 hx (t := .boolean) Bd.returns (by simp) (hb hby at_294) hr
    · show Q_law Z p0 p1 p2 p3 p4 zc fm h0 n0 _ T165.heap _
      rw [Kq165]
      exact ⟨rfl, N159, K162⟩
    · show CHr Z own_EL sS.vm sS.heap T165.vm T165.heap
      rw [hh, Kq165]
      exact CH160.trans (CHv.at X165 hZ0 hEL CH160.1)
  · let Ls168 : Array Slot := #[.val (.int p0), .val (.int p1), .val (.int p2), .val (.int p3), .val (.int p4), .val (.ref b1), .val (.ref b18), .val (.int (3 : Int32)), .unset, .unset, .unset, .unset, .unset, .unset, .unset, .unset]
    obtain ⟨T169, h169, X169, e169, E169, A169, D169, -, st169⟩ := newO X18 hx hZ0 hown0 (w_1 hw) (w_2 hw) (w_3 hw) e18 (g := (mkF mM 70 Ls168 [])) rfl (hb hby at_70) (by decide) (by decide)
    obtain ⟨b169, g169⟩ : ∃ z, z = h18.size := ⟨_, rfl⟩
    rw [← g169] at A169 D169 st169
    have Sn_b169 : Safe Z own_EL sS.vm h18 b169 := Safe.new (Nat.le_of_eq g169.symm)
    have f170 := (f19.ext E18)
    have g_b169 : n0 ≤ b169 := Nat.le_trans (own_osz f170) (Nat.le_of_eq g169.symm)
    have sz_b169 : h0.size ≤ b169 := Nat.le_trans K22.1 (Nat.le_of_eq g169.symm)
    have CH171 : CHr Z own_EL sS.vm h0 sS.vm h169 := CH20.trans (CHr.ext E169 CH20.1)
    have hk172 := Nat.le_trans hk21 E169.1
    have K173 : Keep h0 h169 [] := K22.ext E169
    have F_b169_coder : Fld Z h169 b169 "java/lang/String" "coder" "B" (.int (0 : Int32)) := D169 (Or.inr (w_27 hw)) (ty := .byte) (by decide)
    have F_b169_value : Fld Z h169 b169 "java/lang/String" "value" "[B" .null := D169 (Or.inr (w_29 hw)) (ty := (.array .byte)) (by decide)
    have f174 := (f170.ext E169)
    have f175 := ((V11.ext E18).ext E169)
    obtain ⟨_, _, ⟨T176, L176, k176, n176⟩, -, X176, ⟨Lc176, hQ176, l176, y176, z176⟩, st176⟩ := X169.specialBack hx (y := (⟨"java/lang/String", "<init>", "([C)V"⟩ : MethodName)) rfl hown0 (mvT hZ0 (w_4 hw)) (mvT hZ0 (w_5 hw)) (mvT hZ0 (w_6 hw)) (by decide) (own_new (W := 1) hZ0 hw (cs := [(p0 &&& (255 : Int32)), (p1 &&& (255 : Int32))]) (n := 2) g_b169 (own_osz f174) A169 F_b169_value F_b169_coder f175 (Sta.ext (f174).2 S_COMPACT_STRINGS) hp1 rfl rfl (by decide) (by decide) hcs (by decide) (by decide)) (g := (mkF mM 76 Ls168 [(.ref b1), (.ref b169), (.ref b169)])) rfl (by rw [hml]; rfl) (Steps.refl _) (a := b169) (argsL := [(.ref b1)]) (rest := [(.ref b169)]) (lenOf pd_5 rfl) rfl (by show 2 * 0 + _ ≤ _; exact Nat.le_of_eq rfl) (hb hby at_76) (fun _ _ => ⟨rfl, e169, (by decide : 3 + 1 ≤ _), (by decide : 6 + 2 ≤ _)⟩)
    dsimp only [Pt.U, Pt.locs, Pt.cells, Pt.slots] at X176 l176 y176 z176 st176 hQ176
    subst l176 y176 z176
    obtain ⟨rfl, Nq176, Kq176, t176, kb176, hs176, Sq176⟩ := hQ176
    have N176 := Fr.app N11 Nq176
    have g_t176 : n0 ≤ t176 := Nat.le_trans (own_osz f174) hs176
    have sz_t176 : h0.size ≤ t176 := Nat.le_trans K173.1 hs176
    have f178 := (Safe.ext E169 CH20.1 Sn_b169)
    have sfp179 := (sfS f178 sf0)
    have CH177 : CHr Z own_EL sS.vm h0 sS.vm T176.heap := CH171.trans (CHr.keep Kq176 sfp179 CH171.1)
    have hk180 := Nat.le_trans hk172 Kq176.1
    have K181 : Keep h0 T176.heap [] := K173.trans Kq176 (allS (Or.inr sz_b169) all0)
    let Ls182 : Array Slot := #[.val (.int p0), .val (.int p1), .val (.int p2), .val (.int p3), .val (.int p4), .val (.ref b1), .val (.ref b18), .val (.int (3 : Int32)), .val (.ref b169), .unset, .unset, .unset, .unset, .unset, .unset, .unset]
    let Ls183 : Array Slot := #[.val (.int p0), .val (.int p1), .val (.int p2), .val (.int p3), .val (.int p4), .val (.ref b1), .val (.ref b18), .val (.int (3 : Int32)), .val (.ref b169), .val (.int ((p3 + (1 : Int32)) + (p4 &&& (16383 : Int32)))), .unset, .unset, .unset, .unset, .unset, .unset]
    have f184 := (f174.keep Kq176 (allS g_b169 all0))
    obtain ⟨_, _, ⟨T185, L185, k185, n185⟩, -, X185, ⟨Lc185, hQ185, l185, y185, z185⟩, st185⟩ := Jvm.LawKit.callS X176 hx (y := (⟨"com/example/subsumer/subsumer/Role", "property", "(Ljava/lang/String;I)Lcom/example/subsumer/subsumer/Role;"⟩ : MethodName)) hown0 (mvT hZ0 (w_30 hw)) (mvT hZ0 (w_31 hw)) (mvT hZ0 (w_32 hw)) (mvT hZ0 (w_33 hw)) (by decide) (backOf (W := 0) (rm_prop l Z a0 hw [] b169 p3 T176.heap n0 f184 ) hZ0 (w_33 hw) (w_32 hw) (by decide) (by decide)) (g := (mkF mM 96 Ls183 [(.int p3), (.ref b169)])) rfl (by rw [hml]; rfl) (argsL := [(.ref b169), (.int p3)]) (rest := []) (lenOf pd_6 rfl) rfl (by show 2 * 0 + _ ≤ _; exact Nat.le_of_eq rfl) (hb hby at_96) (fun _ _ => ⟨rfl, rfl, (by decide : 4 + 2 ≤ _), (by decide : 8 + 8 ≤ _)⟩)
    dsimp only [Pt.U, Pt.locs, Pt.cells, Pt.slots] at X185 l185 y185 z185 st185 hQ185
    subst l185 y185 z185
    obtain ⟨a_185, b_185, rfl, Nq185, Kq185, q185_0, q185_1, q185_2, q185_3, q185_4, q185_5, q185_6, q185_7, q185_8, q185_9, q185_10, q185_11, q185_12⟩ := hQ185
    have N185 := Fr.app N176 Nq185
    have g_a_185 : n0 ≤ a_185 := Nat.le_trans (own_osz f184) q185_0
    have sz_a_185 : h0.size ≤ a_185 := Nat.le_trans K181.1 q185_0
    have g_b_185 : n0 ≤ b_185 := Nat.le_trans (own_osz f184) q185_1
    have sz_b_185 : h0.size ≤ b_185 := Nat.le_trans K181.1 q185_1
    have CH186 : CHr Z own_EL sS.vm h0 sS.vm T185.heap := CH177.trans (CHr.keep Kq185 sf0 CH177.1)
    have hk187 := Nat.le_trans hk180 Kq185.1
    have K188 : Keep h0 T185.heap [] := K181.trans Kq185 all0
    let Ls189 : Array Slot := #[.val (.int p0), .val (.int p1), .val (.int p2), .val (.int p3), .val (.int p4), .val (.ref b1), .val (.ref b18), .val (.int (3 : Int32)), .val (.ref b169), .val (.int ((p3 + (1 : Int32)) + (p4 &&& (16383 : Int32)))), .val (.ref a_185), .unset, .unset, .unset, .unset, .unset]
    have f190 := (f184.keep Kq185 all0)
    obtain ⟨cq191, kq191, q191a, q191b, q191c⟩ := isOf hZ0 rfl q185_3
    obtain ⟨_, _, ⟨T191, L191, k191, n191⟩, -, X191, ⟨Lc191, hQ191, l191, y191, z191⟩, st191⟩ := X185.virtualBack hx (y := (⟨"com/example/subsumer/subsumer/Role", "inverse", "()Lcom/example/subsumer/subsumer/Role;"⟩ : MethodName)) (z := (⟨"com/example/subsumer/subsumer/Role", "inverse", "()Lcom/example/subsumer/subsumer/Role;"⟩ : MethodName)) hown0 (mvT hZ0 (w_48 hw)) (mvT hZ0 (w_49 hw)) (notFace_of_selects (args := #[]) (mvT hZ0 (w_51 hw))) (mvT hZ0 (w_51 hw)) (mvT hZ0 (w_50 hw)) (by decide) (backOf (W := 0) (rm_inv l Z a0 hw [] a_185 b_185 T185.heap n0 f190 q185_11) hZ0 (w_52 hw) (w_32 hw) (by decide) (by decide)) q191a q191c (g := (mkF mM 110 Ls189 [(.ref a_185)])) rfl (by rw [hml]; rfl) (Steps.refl _) (argsL := []) (rest := []) (lenOf pd_7 rfl) rfl (by show 2 * 0 + _ ≤ _; exact Nat.le_of_eq rfl) (hb hby at_110) (fun _ _ => ⟨rfl, rfl, (by decide : 6 + 0 ≤ _), (by decide : 16 + 0 ≤ _)⟩)
    dsimp only [Pt.U, Pt.locs, Pt.cells, Pt.slots] at X191 l191 y191 z191 st191 hQ191
    subst l191 y191 z191
    obtain ⟨rfl, rfl, Kq191⟩ := hQ191
    try rw [List.append_nil] at X191
    let Ls192 : Array Slot := #[.val (.int p0), .val (.int p1), .val (.int p2), .val (.int p3), .val (.int p4), .val (.ref b1), .val (.ref b18), .val (.int (3 : Int32)), .val (.ref b169), .val (.int ((p3 + (1 : Int32)) + (p4 &&& (16383 : Int32)))), .val (.ref a_185), .val (.ref b_185), .unset, .unset, .unset, .unset]
    obtain ⟨cq193, kq193, q193a, q193b, q193c⟩ := isOf hZ0 Kq191 q185_3
    obtain ⟨_, _, ⟨T193, L193, k193, n193⟩, -, X193, ⟨Lc193, hQ193, l193, y193, z193⟩, st193⟩ := X191.virtualBack hx (y := (⟨"com/example/subsumer/subsumer/Role", "iri", "()Ljava/lang/String;"⟩ : MethodName)) (z := (⟨"com/example/subsumer/subsumer/Role", "iri", "()Ljava/lang/String;"⟩ : MethodName)) hown0 (mvT hZ0 (w_53 hw)) (mvT hZ0 (w_54 hw)) (notFace_of_selects (args := #[]) (mvT hZ0 (w_56 hw))) (mvT hZ0 (w_56 hw)) (mvT hZ0 (w_55 hw)) (by decide) (backOf (W := 1) (rm_iri l Z a0 hw [] a_185 b169 T185.heap n0 f190 q185_5) hZ0 (w_57 hw) (w_32 hw) (by decide) (by decide)) q193a q193c (g := (mkF mM 133 Ls192 [(.ref a_185), (.ref b169)])) rfl (by rw [hml]; rfl) (Steps.refl _) (argsL := []) (rest := [(.ref b169)]) (lenOf pd_8 rfl) rfl (by show 2 * 0 + _ ≤ _; exact Nat.le_of_eq rfl) (hb hby at_133) (fun _ _ => ⟨rfl, Kq191, (by decide : 6 + 0 ≤ _), (by decide : 16 + 0 ≤ _)⟩)
    dsimp only [Pt.U, Pt.locs, Pt.cells, Pt.slots] at X193 l193 y193 z193 st193 hQ193
    subst l193 y193 z193
    obtain ⟨rfl, rfl, Kq193⟩ := hQ193
    try rw [List.append_nil] at X193
    have f195 := ((Sq176).1.keep Kq185)
    obtain ⟨cq194, kq194, q194a, q194b, q194c⟩ := isOf hZ0 Kq193 f195
    obtain ⟨_, _, ⟨T194, L194, k194, n194⟩, -, X194, ⟨Lc194, hQ194, l194, y194, z194⟩, st194⟩ := X193.virtualBack hx (y := (⟨"java/lang/String", "equals", "(Ljava/lang/Object;)Z"⟩ : MethodName)) (z := (⟨"java/lang/String", "equals", "(Ljava/lang/Object;)Z"⟩ : MethodName)) hown0 (mvT hZ0 (w_58 hw)) (mvT hZ0 (w_59 hw)) (notFace_of_selects (args := #[]) (mvT hZ0 (w_61 hw))) (mvT hZ0 (w_61 hw)) (mvT hZ0 (w_60 hw)) (by decide) (backOf (W := 0) (rm_seqs l Z a0 hw [] b169 T185.heap n0 f190 ) hZ0 (w_62 hw) (w_3 hw) (by decide) (by decide)) q194a q194c (g := (mkF mM 136 Ls192 [(.ref b169), (.ref b169)])) rfl (by rw [hml]; rfl) (Steps.refl _) (argsL := [(.ref b169)]) (rest := []) (lenOf pd_9 rfl) rfl (by show 2 * 0 + _ ≤ _; exact Nat.le_of_eq rfl) (hb hby at_136) (fun _ _ => ⟨rfl, Kq193, (by decide : 6 + 0 ≤ _), (by decide : 16 + 0 ≤ _)⟩)
    dsimp only [Pt.U, Pt.locs, Pt.cells, Pt.slots] at X194 l194 y194 z194 st194 hQ194
    subst l194 y194 z194
    obtain ⟨rfl, rfl, Kq194⟩ := hQ194
    try rw [List.append_nil] at X194
    obtain ⟨cq196, kq196, q196a, q196b, q196c⟩ := isOf hZ0 Kq194 q185_4
    obtain ⟨_, _, ⟨T196, L196, k196, n196⟩, -, X196, ⟨Lc196, hQ196, l196, y196, z196⟩, st196⟩ := X194.virtualBack hx (y := (⟨"com/example/subsumer/subsumer/Role", "iri", "()Ljava/lang/String;"⟩ : MethodName)) (z := (⟨"com/example/subsumer/subsumer/Role", "iri", "()Ljava/lang/String;"⟩ : MethodName)) hown0 (mvT hZ0 (w_53 hw)) (mvT hZ0 (w_54 hw)) (notFace_of_selects (args := #[]) (mvT hZ0 (w_56 hw))) (mvT hZ0 (w_56 hw)) (mvT hZ0 (w_55 hw)) (by decide) (backOf (W := 1) (rm_iri l Z a0 hw [] b_185 b169 T185.heap n0 f190 q185_6) hZ0 (w_57 hw) (w_32 hw) (by decide) (by decide)) q196a q196c (g := (mkF mM 146 Ls192 [(.ref b_185), (.ref b169)])) rfl (by rw [hml]; rfl) (Steps.refl _) (argsL := []) (rest := [(.ref b169)]) (lenOf pd_8 rfl) rfl (by show 2 * 0 + _ ≤ _; exact Nat.le_of_eq rfl) (hb hby at_146) (fun _ _ => ⟨rfl, Kq194, (by decide : 6 + 0 ≤ _), (by decide : 16 + 0 ≤ _)⟩)
    dsimp only [Pt.U, Pt.locs, Pt.cells, Pt.slots] at X196 l196 y196 z196 st196 hQ196
    subst l196 y196 z196
    obtain ⟨rfl, rfl, Kq196⟩ := hQ196
    try rw [List.append_nil] at X196
    obtain ⟨cq197, kq197, q197a, q197b, q197c⟩ := isOf hZ0 Kq196 f195
    obtain ⟨_, _, ⟨T197, L197, k197, n197⟩, -, X197, ⟨Lc197, hQ197, l197, y197, z197⟩, st197⟩ := X196.virtualBack hx (y := (⟨"java/lang/String", "equals", "(Ljava/lang/Object;)Z"⟩ : MethodName)) (z := (⟨"java/lang/String", "equals", "(Ljava/lang/Object;)Z"⟩ : MethodName)) hown0 (mvT hZ0 (w_58 hw)) (mvT hZ0 (w_59 hw)) (notFace_of_selects (args := #[]) (mvT hZ0 (w_61 hw))) (mvT hZ0 (w_61 hw)) (mvT hZ0 (w_60 hw)) (by decide) (backOf (W := 0) (rm_seqs l Z a0 hw [] b169 T185.heap n0 f190 ) hZ0 (w_62 hw) (w_3 hw) (by decide) (by decide)) q197a q197c (g := (mkF mM 149 Ls192 [(.ref b169), (.ref b169)])) rfl (by rw [hml]; rfl) (Steps.refl _) (argsL := [(.ref b169)]) (rest := []) (lenOf pd_9 rfl) rfl (by show 2 * 0 + _ ≤ _; exact Nat.le_of_eq rfl) (hb hby at_149) (fun _ _ => ⟨rfl, Kq196, (by decide : 6 + 0 ≤ _), (by decide : 16 + 0 ≤ _)⟩)
    dsimp only [Pt.U, Pt.locs, Pt.cells, Pt.slots] at X197 l197 y197 z197 st197 hQ197
    subst l197 y197 z197
    obtain ⟨rfl, rfl, Kq197⟩ := hQ197
    try rw [List.append_nil] at X197
    let Ls198 : Array Slot := #[.val (.int p0), .val (.int p1), .val (.int p2), .val (.int p3), .val (.int p4), .val (.ref b1), .val (.ref b18), .val (.int (3 : Int32)), .val (.ref b169), .val (.int ((p3 + (1 : Int32)) + (p4 &&& (16383 : Int32)))), .val (.ref a_185), .val (.ref b_185), .val (.int (1 : Int32)), .unset, .unset, .unset]
    obtain ⟨cq199, kq199, q199a, q199b, q199c⟩ := isOf hZ0 Kq197 q185_3
    obtain ⟨_, _, ⟨T199, L199, k199, n199⟩, -, X199, ⟨Lc199, hQ199, l199, y199, z199⟩, st199⟩ := X197.virtualBack hx (y := (⟨"com/example/subsumer/subsumer/Role", "isInverse", "()Z"⟩ : MethodName)) (z := (⟨"com/example/subsumer/subsumer/Role", "isInverse", "()Z"⟩ : MethodName)) hown0 (mvT hZ0 (w_63 hw)) (mvT hZ0 (w_64 hw)) (notFace_of_selects (args := #[]) (mvT hZ0 (w_66 hw))) (mvT hZ0 (w_66 hw)) (mvT hZ0 (w_65 hw)) (by decide) (backOf (W := 0) (rm_isi l Z a0 hw [] a_185 (0 : Int32) T185.heap n0 f190 q185_9 (rfl : nar .boolean (0 : Int32) = (0 : Int32))) hZ0 (w_67 hw) (w_32 hw) (by decide) (by decide)) q199a q199c (g := (mkF mM 169 Ls198 [(.ref a_185)])) rfl (by rw [hml]; rfl) (Steps.refl _) (argsL := []) (rest := []) (lenOf pd_10 rfl) rfl (by show 2 * 0 + _ ≤ _; exact Nat.le_of_eq rfl) (hb hby at_169) (fun _ _ => ⟨rfl, Kq197, (by decide : 6 + 0 ≤ _), (by decide : 16 + 0 ≤ _)⟩)
    dsimp only [Pt.U, Pt.locs, Pt.cells, Pt.slots] at X199 l199 y199 z199 st199 hQ199
    subst l199 y199 z199
    obtain ⟨rfl, rfl, Kq199⟩ := hQ199
    try rw [List.append_nil] at X199
    obtain ⟨cq200, kq200, q200a, q200b, q200c⟩ := isOf hZ0 Kq199 q185_4
    obtain ⟨_, _, ⟨T200, L200, k200, n200⟩, -, X200, ⟨Lc200, hQ200, l200, y200, z200⟩, st200⟩ := X199.virtualBack hx (y := (⟨"com/example/subsumer/subsumer/Role", "isInverse", "()Z"⟩ : MethodName)) (z := (⟨"com/example/subsumer/subsumer/Role", "isInverse", "()Z"⟩ : MethodName)) hown0 (mvT hZ0 (w_63 hw)) (mvT hZ0 (w_64 hw)) (notFace_of_selects (args := #[]) (mvT hZ0 (w_66 hw))) (mvT hZ0 (w_66 hw)) (mvT hZ0 (w_65 hw)) (by decide) (backOf (W := 0) (rm_isi l Z a0 hw [] b_185 (1 : Int32) T185.heap n0 f190 q185_10 (rfl : nar .boolean (1 : Int32) = (1 : Int32))) hZ0 (w_67 hw) (w_32 hw) (by decide) (by decide)) q200a q200c (g := (mkF mM 177 Ls198 [(.ref b_185)])) rfl (by rw [hml]; rfl) (Steps.refl _) (argsL := []) (rest := []) (lenOf pd_10 rfl) rfl (by show 2 * 0 + _ ≤ _; exact Nat.le_of_eq rfl) (hb hby at_177) (fun _ _ => ⟨rfl, Kq199, (by decide : 6 + 0 ≤ _), (by decide : 16 + 0 ≤ _)⟩)
    dsimp only [Pt.U, Pt.locs, Pt.cells, Pt.slots] at X200 l200 y200 z200 st200 hQ200
    subst l200 y200 z200
    obtain ⟨rfl, rfl, Kq200⟩ := hQ200
    try rw [List.append_nil] at X200
    let Ls201 : Array Slot := #[.val (.int p0), .val (.int p1), .val (.int p2), .val (.int p3), .val (.int p4), .val (.ref b1), .val (.ref b18), .val (.int (3 : Int32)), .val (.ref b169), .val (.int ((p3 + (1 : Int32)) + (p4 &&& (16383 : Int32)))), .val (.ref a_185), .val (.ref b_185), .val (.int (1 : Int32)), .unset, .unset, .unset]
    obtain ⟨cq202, kq202, q202a, q202b, q202c⟩ := isOf hZ0 Kq200 q185_4
    obtain ⟨_, _, ⟨T202, L202, k202, n202⟩, -, X202, ⟨Lc202, hQ202, l202, y202, z202⟩, st202⟩ := X200.virtualBack hx (y := (⟨"com/example/subsumer/subsumer/Role", "inverse", "()Lcom/example/subsumer/subsumer/Role;"⟩ : MethodName)) (z := (⟨"com/example/subsumer/subsumer/Role", "inverse", "()Lcom/example/subsumer/subsumer/Role;"⟩ : MethodName)) hown0 (mvT hZ0 (w_48 hw)) (mvT hZ0 (w_49 hw)) (notFace_of_selects (args := #[]) (mvT hZ0 (w_51 hw))) (mvT hZ0 (w_51 hw)) (mvT hZ0 (w_50 hw)) (by decide) (backOf (W := 0) (rm_inv l Z a0 hw [] b_185 a_185 T185.heap n0 f190 q185_12) hZ0 (w_52 hw) (w_32 hw) (by decide) (by decide)) q202a q202c (g := (mkF mM 197 Ls201 [(.ref b_185)])) rfl (by rw [hml]; rfl) (Steps.refl _) (argsL := []) (rest := []) (lenOf pd_7 rfl) rfl (by show 2 * 0 + _ ≤ _; exact Nat.le_of_eq rfl) (hb hby at_197) (fun _ _ => ⟨rfl, Kq200, (by decide : 6 + 0 ≤ _), (by decide : 16 + 0 ≤ _)⟩)
    dsimp only [Pt.U, Pt.locs, Pt.cells, Pt.slots] at X202 l202 y202 z202 st202 hQ202
    subst l202 y202 z202
    obtain ⟨rfl, rfl, Kq202⟩ := hQ202
    try rw [List.append_nil] at X202
    let Ls203 : Array Slot := #[.val (.int p0), .val (.int p1), .val (.int p2), .val (.int p3), .val (.int p4), .val (.ref b1), .val (.ref b18), .val (.int (3 : Int32)), .val (.ref b169), .val (.int ((p3 + (1 : Int32)) + (p4 &&& (16383 : Int32)))), .val (.ref a_185), .val (.ref b_185), .val (.int (1 : Int32)), .unset, .unset, .unset]
    obtain ⟨cq204, kq204, q204a, q204b, q204c⟩ := isOf hZ0 Kq202 q185_3
    obtain ⟨_, _, ⟨T204, L204, k204, n204⟩, -, X204, ⟨Lc204, hQ204, l204, y204, z204⟩, st204⟩ := X202.virtualBack hx (y := (⟨"com/example/subsumer/subsumer/Role", "hashCode", "()I"⟩ : MethodName)) (z := (⟨"com/example/subsumer/subsumer/Role", "hashCode", "()I"⟩ : MethodName)) hown0 (mvT hZ0 (w_68 hw)) (mvT hZ0 (w_69 hw)) (notFace_of_selects (args := #[]) (mvT hZ0 (w_71 hw))) (mvT hZ0 (w_71 hw)) (mvT hZ0 (w_70 hw)) (by decide) (backOf (W := 0) (rm_hsh l Z a0 hw [] a_185 ((2 : Int32) * p3) T185.heap n0 f190 q185_7) hZ0 (w_72 hw) (w_32 hw) (by decide) (by decide)) q204a q204c (g := (mkF mM 214 Ls203 [(.ref a_185)])) rfl (by rw [hml]; rfl) (Steps.refl _) (argsL := []) (rest := []) (lenOf pd_11 rfl) rfl (by show 2 * 0 + _ ≤ _; exact Nat.le_of_eq rfl) (hb hby at_214) (fun _ _ => ⟨rfl, Kq202, (by decide : 6 + 0 ≤ _), (by decide : 16 + 0 ≤ _)⟩)
    dsimp only [Pt.U, Pt.locs, Pt.cells, Pt.slots] at X204 l204 y204 z204 st204 hQ204
    subst l204 y204 z204
    obtain ⟨rfl, rfl, Kq204⟩ := hQ204
    try rw [List.append_nil] at X204
    let Ls205 : Array Slot := #[.val (.int p0), .val (.int p1), .val (.int p2), .val (.int p3), .val (.int p4), .val (.ref b1), .val (.ref b18), .val (.int (3 : Int32)), .val (.ref b169), .val (.int ((p3 + (1 : Int32)) + (p4 &&& (16383 : Int32)))), .val (.ref a_185), .val (.ref b_185), .val (.int (1 : Int32)), .val (.int ((2 : Int32) * p3)), .unset, .unset]
    obtain ⟨cq206, kq206, q206a, q206b, q206c⟩ := isOf hZ0 Kq204 q185_4
    obtain ⟨_, _, ⟨T206, L206, k206, n206⟩, -, X206, ⟨Lc206, hQ206, l206, y206, z206⟩, st206⟩ := X204.virtualBack hx (y := (⟨"com/example/subsumer/subsumer/Role", "hashCode", "()I"⟩ : MethodName)) (z := (⟨"com/example/subsumer/subsumer/Role", "hashCode", "()I"⟩ : MethodName)) hown0 (mvT hZ0 (w_68 hw)) (mvT hZ0 (w_69 hw)) (notFace_of_selects (args := #[]) (mvT hZ0 (w_71 hw))) (mvT hZ0 (w_71 hw)) (mvT hZ0 (w_70 hw)) (by decide) (backOf (W := 0) (rm_hsh l Z a0 hw [] b_185 (((2 : Int32) * p3) + (1 : Int32)) T185.heap n0 f190 q185_8) hZ0 (w_72 hw) (w_32 hw) (by decide) (by decide)) q206a q206c (g := (mkF mM 221 Ls205 [(.ref b_185)])) rfl (by rw [hml]; rfl) (Steps.refl _) (argsL := []) (rest := []) (lenOf pd_11 rfl) rfl (by show 2 * 0 + _ ≤ _; exact Nat.le_of_eq rfl) (hb hby at_221) (fun _ _ => ⟨rfl, Kq204, (by decide : 6 + 0 ≤ _), (by decide : 16 + 0 ≤ _)⟩)
    dsimp only [Pt.U, Pt.locs, Pt.cells, Pt.slots] at X206 l206 y206 z206 st206 hQ206
    subst l206 y206 z206
    obtain ⟨rfl, rfl, Kq206⟩ := hQ206
    try rw [List.append_nil] at X206
    let Ls207 : Array Slot := #[.val (.int p0), .val (.int p1), .val (.int p2), .val (.int p3), .val (.int p4), .val (.ref b1), .val (.ref b18), .val (.int (3 : Int32)), .val (.ref b169), .val (.int ((p3 + (1 : Int32)) + (p4 &&& (16383 : Int32)))), .val (.ref a_185), .val (.ref b_185), .val (.int (1 : Int32)), .val (.int ((2 : Int32) * p3)), .val (.int (((2 : Int32) * p3) + (1 : Int32))), .unset]
    let Ls208 : Array Slot := #[.val (.int p0), .val (.int p1), .val (.int p2), .val (.int p3), .val (.int p4), .val (.ref b1), .val (.ref b18), .val (.int (3 : Int32)), .val (.ref b169), .val (.int ((p3 + (1 : Int32)) + (p4 &&& (16383 : Int32)))), .val (.ref a_185), .val (.ref b_185), .val (.int (1 : Int32)), .val (.int ((2 : Int32) * p3)), .val (.int (((2 : Int32) * p3) + (1 : Int32))), .unset]
    obtain ⟨_, _, ⟨T209, L209, k209, n209⟩, -, X209, ⟨Lc209, hQ209, l209, y209, z209⟩, st209⟩ := Jvm.LawKit.callS X206 hx (y := (⟨"com/example/subsumer/subsumer/Role", "property", "(Ljava/lang/String;I)Lcom/example/subsumer/subsumer/Role;"⟩ : MethodName)) hown0 (mvT hZ0 (w_30 hw)) (mvT hZ0 (w_31 hw)) (mvT hZ0 (w_32 hw)) (mvT hZ0 (w_33 hw)) (by decide) (backOf (W := 0) (rm_prop l Z a0 hw [] b169 ((p3 + (1 : Int32)) + (p4 &&& (16383 : Int32))) T185.heap n0 f190 ) hZ0 (w_33 hw) (w_32 hw) (by decide) (by decide)) (g := (mkF mM 258 Ls208 [(.int ((p3 + (1 : Int32)) + (p4 &&& (16383 : Int32)))), (.ref b169)])) rfl (by rw [hml]; rfl) (argsL := [(.ref b169), (.int ((p3 + (1 : Int32)) + (p4 &&& (16383 : Int32))))]) (rest := []) (lenOf pd_6 rfl) rfl (by show 2 * 0 + _ ≤ _; exact Nat.le_of_eq rfl) (hb hby at_258) (fun _ _ => ⟨rfl, Kq206, (by decide : 6 + 2 ≤ _), (by decide : 16 + 8 ≤ _)⟩)
    dsimp only [Pt.U, Pt.locs, Pt.cells, Pt.slots] at X209 l209 y209 z209 st209 hQ209
    subst l209 y209 z209
    obtain ⟨a_209, b_209, rfl, Nq209, Kq209, q209_0, q209_1, q209_2, q209_3, q209_4, q209_5, q209_6, q209_7, q209_8, q209_9, q209_10, q209_11, q209_12⟩ := hQ209
    have N209 := Fr.app N185 Nq209
    have g_a_209 : n0 ≤ a_209 := Nat.le_trans (own_osz f190) q209_0
    have sz_a_209 : h0.size ≤ a_209 := Nat.le_trans K188.1 q209_0
    have g_b_209 : n0 ≤ b_209 := Nat.le_trans (own_osz f190) q209_1
    have sz_b_209 : h0.size ≤ b_209 := Nat.le_trans K188.1 q209_1
    have CH210 : CHr Z own_EL sS.vm h0 sS.vm T209.heap := CH186.trans (CHr.keep Kq209 sf0 CH186.1)
    have hk211 := Nat.le_trans hk187 Kq209.1
    have K212 : Keep h0 T209.heap [] := K188.trans Kq209 all0
    let Ls213 : Array Slot := #[.val (.int p0), .val (.int p1), .val (.int p2), .val (.int p3), .val (.int p4), .val (.ref b1), .val (.ref b18), .val (.int (3 : Int32)), .val (.ref b169), .val (.int ((p3 + (1 : Int32)) + (p4 &&& (16383 : Int32)))), .val (.ref a_185), .val (.ref b_185), .val (.int (1 : Int32)), .val (.int ((2 : Int32) * p3)), .val (.int (((2 : Int32) * p3) + (1 : Int32))), .val (.ref a_209)]
    have f214 := (f190.keep Kq209 all0)
    obtain ⟨cq215, kq215, q215a, q215b, q215c⟩ := isOf hZ0 rfl q209_3
    obtain ⟨_, _, ⟨T215, L215, k215, n215⟩, -, X215, ⟨Lc215, hQ215, l215, y215, z215⟩, st215⟩ := X209.virtualBack hx (y := (⟨"com/example/subsumer/subsumer/Role", "hashCode", "()I"⟩ : MethodName)) (z := (⟨"com/example/subsumer/subsumer/Role", "hashCode", "()I"⟩ : MethodName)) hown0 (mvT hZ0 (w_68 hw)) (mvT hZ0 (w_69 hw)) (notFace_of_selects (args := #[]) (mvT hZ0 (w_71 hw))) (mvT hZ0 (w_71 hw)) (mvT hZ0 (w_70 hw)) (by decide) (backOf (W := 0) (rm_hsh l Z a0 hw [] a_209 ((2 : Int32) * ((p3 + (1 : Int32)) + (p4 &&& (16383 : Int32)))) T209.heap n0 f214 q209_7) hZ0 (w_72 hw) (w_32 hw) (by decide) (by decide)) q215a q215c (g := (mkF mM 277 Ls213 [(.ref a_209)])) rfl (by rw [hml]; rfl) (Steps.refl _) (argsL := []) (rest := []) (lenOf pd_11 rfl) rfl (by show 2 * 0 + _ ≤ _; exact Nat.le_of_eq rfl) (hb hby at_277) (fun _ _ => ⟨rfl, rfl, (by decide : 8 + 0 ≤ _), (by decide : 24 + 0 ≤ _)⟩)
    dsimp only [Pt.U, Pt.locs, Pt.cells, Pt.slots] at X215 l215 y215 z215 st215 hQ215
    subst l215 y215 z215
    obtain ⟨rfl, rfl, Kq215⟩ := hQ215
    try rw [List.append_nil] at X215
    let Ls216 : Array Slot := #[.val (.int p0), .val (.int p1), .val (.int p2), .val (.int p3), .val (.int p4), .val (.ref b1), .val (.ref b18), .val (.int (3 : Int32)), .val (.ref b169), .val (.int ((p3 + (1 : Int32)) + (p4 &&& (16383 : Int32)))), .val (.ref a_185), .val (.ref b_185), .val (.int (1 : Int32)), .val (.int ((2 : Int32) * p3)), .val (.int (((2 : Int32) * p3) + (1 : Int32))), .val (.ref a_209)]
    obtain ⟨fs, hr, hrun, hended, hR1, hR2, hR3, hR4⟩ := Stand.leaveW (s := sS) (vm₁ := sS.vm) X215 hS0 (by rw [Kq215]; exact hk211) (v := some (.int (1 : Int32))) (fun h => by rw [Bd.returns] at h; cases h)
    refine ⟨_, _, pre24 _ ?_, hrun, hended, _, _, rfl, ?_, ?_, hR1, hR2, hR3, hR4.mono (by decide) (by decide)⟩
    · refine XS.iloadN X18.here hx rfl (hb hby at_28) rfl ?_
      show Steps pP.tables eE below (T18.setTop (mkF mM 29 Ls23 [(.int p2)])) _
      refine XS.iconst X18.here hx rfl (hb hby at_29) ?_
      show Steps pP.tables eE below (T18.setTop (mkF mM 30 Ls23 [(.int (3 : Int32)), (.int p2)])) _
      refine XS.iand X18.here hx rfl (hb hby at_30) rfl ?_
      show Steps pP.tables eE below (T18.setTop (mkF mM 31 Ls23 [(.int (p2 &&& (3 : Int32)))])) _
      rw [hk]
      show Steps pP.tables eE below (T18.setTop (mkF mM 31 Ls23 [(.int (3 : Int32))])) _
      refine XS.istore X18.here hx rfl (hb hby at_31) rfl (l' := Ls168) rfl ?_
      show Steps pP.tables eE below (T18.setTop (mkF mM 33 Ls168 [])) _
      refine XS.iload X18.here hx rfl (hb hby at_33) rfl ?_
      show Steps pP.tables eE below (T18.setTop (mkF mM 35 Ls168 [(.int (3 : Int32))])) _
      refine XS.ifYes X18.here hx rfl (pc0 := 35) (pc' := 52) rfl (hb hby at_35) rfl ((if0 _ _).trans (feq (by decide : ¬ ((3 : Int32) = (0 : Int32)))).2) (by decide) (by decide) ?_
      show Steps pP.tables eE below (T18.setTop (mkF mM 52 Ls168 [])) _
      refine XS.iload X18.here hx rfl (hb hby at_52) rfl ?_
      show Steps pP.tables eE below (T18.setTop (mkF mM 54 Ls168 [(.int (3 : Int32))])) _
      refine XS.iconst X18.here hx rfl (hb hby at_54) ?_
      show Steps pP.tables eE below (T18.setTop (mkF mM 55 Ls168 [(.int (1 : Int32)), (.int (3 : Int32))])) _
      refine XS.icmpYes X18.here hx rfl (pc0 := 55) (pc' := 70) rfl (hb hby at_55) rfl (feq (by decide : ¬ ((3 : Int32) = (1 : Int32)))).2 (by decide) (by decide) ?_
      show Steps pP.tables eE below (T18.setTop (mkF mM 70 Ls168 [])) _
      refine st169 _ ?_
      show Steps pP.tables eE below (T169.setTop (mkF mM 73 Ls168 [(.ref b169)])) _
      refine XS.dup X169.here hx rfl (hb hby at_73) rfl rfl ?_
      show Steps pP.tables eE below (T169.setTop (mkF mM 74 Ls168 [(.ref b169), (.ref b169)])) _
      refine XS.aload X169.here hx rfl (hb hby at_74) rfl rfl ?_
      show Steps pP.tables eE below (T169.setTop (mkF mM 76 Ls168 [(.ref b1), (.ref b169), (.ref b169)])) _
      refine st176.trans ?_
      show Steps pP.tables eE below (T176.setTop (mkF mM 79 Ls168 [(.ref b169)])) _
      refine XS.astore X176.here hx rfl (hb hby at_79) rfl rfl (l' := Ls182) rfl ?_
      show Steps pP.tables eE below (T176.setTop (mkF mM 81 Ls182 [])) _
      refine XS.iloadN X176.here hx rfl (hb hby at_81) rfl ?_
      show Steps pP.tables eE below (T176.setTop (mkF mM 82 Ls182 [(.int p3)])) _
      refine XS.iconst X176.here hx rfl (hb hby at_82) ?_
      show Steps pP.tables eE below (T176.setTop (mkF mM 83 Ls182 [(.int (1 : Int32)), (.int p3)])) _
      refine XS.iadd X176.here hx rfl (hb hby at_83) rfl ?_
      show Steps pP.tables eE below (T176.setTop (mkF mM 84 Ls182 [(.int (p3 + (1 : Int32)))])) _
      refine XS.iload X176.here hx rfl (hb hby at_84) rfl ?_
      show Steps pP.tables eE below (T176.setTop (mkF mM 86 Ls182 [(.int p4), (.int (p3 + (1 : Int32)))])) _
      refine XS.sipush X176.here hx rfl (hb hby at_86) ?_
      show Steps pP.tables eE below (T176.setTop (mkF mM 89 Ls182 [(.int (16383 : Int32)), (.int p4), (.int (p3 + (1 : Int32)))])) _
      refine XS.iand X176.here hx rfl (hb hby at_89) rfl ?_
      show Steps pP.tables eE below (T176.setTop (mkF mM 90 Ls182 [(.int (p4 &&& (16383 : Int32))), (.int (p3 + (1 : Int32)))])) _
      refine XS.iadd X176.here hx rfl (hb hby at_90) rfl ?_
      show Steps pP.tables eE below (T176.setTop (mkF mM 91 Ls182 [(.int ((p3 + (1 : Int32)) + (p4 &&& (16383 : Int32))))])) _
      refine XS.istore X176.here hx rfl (hb hby at_91) rfl (l' := Ls183) rfl ?_
      show Steps pP.tables eE below (T176.setTop (mkF mM 93 Ls183 [])) _
      refine XS.aload X176.here hx rfl (hb hby at_93) rfl rfl ?_
      show Steps pP.tables eE below (T176.setTop (mkF mM 95 Ls183 [(.ref b169)])) _
      refine XS.iloadN X176.here hx rfl (hb hby at_95) rfl ?_
      show Steps pP.tables eE below (T176.setTop (mkF mM 96 Ls183 [(.int p3), (.ref b169)])) _
      refine st185 _ ?_
      show Steps pP.tables eE below (T185.setTop (mkF mM 99 Ls183 [(.ref a_185)])) _
      refine XS.astore X185.here hx rfl (hb hby at_99) rfl rfl (l' := Ls189) rfl ?_
      show Steps pP.tables eE below (T185.setTop (mkF mM 101 Ls189 [])) _
      refine XS.aload X185.here hx rfl (hb hby at_101) rfl rfl ?_
      show Steps pP.tables eE below (T185.setTop (mkF mM 103 Ls189 [(.ref a_185)])) _
      refine XS.ifnonnullYes X185.here hx rfl (pc0 := 103) (pc' := 108) rfl (hb hby at_103) rfl (by decide) (by decide) ?_
      show Steps pP.tables eE below (T185.setTop (mkF mM 108 Ls189 [])) _
      refine XS.aload X185.here hx rfl (hb hby at_108) rfl rfl ?_
      show Steps pP.tables eE below (T185.setTop (mkF mM 110 Ls189 [(.ref a_185)])) _
      refine st191.trans ?_
      show Steps pP.tables eE below (T191.setTop (mkF mM 113 Ls189 [(.ref b_185)])) _
      refine XS.astore X191.here hx rfl (hb hby at_113) rfl rfl (l' := Ls192) rfl ?_
      show Steps pP.tables eE below (T191.setTop (mkF mM 115 Ls192 [])) _
      refine XS.aload X191.here hx rfl (hb hby at_115) rfl rfl ?_
      show Steps pP.tables eE below (T191.setTop (mkF mM 117 Ls192 [(.ref b_185)])) _
      refine XS.ifnullNo X191.here hx rfl (hb hby at_117) rfl ?_
      show Steps pP.tables eE below (T191.setTop (mkF mM 120 Ls192 [])) _
      refine XS.aload X191.here hx rfl (hb hby at_120) rfl rfl ?_
      show Steps pP.tables eE below (T191.setTop (mkF mM 122 Ls192 [(.ref b_185)])) _
      refine XS.aload X191.here hx rfl (hb hby at_122) rfl rfl ?_
      show Steps pP.tables eE below (T191.setTop (mkF mM 124 Ls192 [(.ref a_185), (.ref b_185)])) _
      refine Jvm.RoadKit.acmp (g := (mkF mM 124 Ls192 [(.ref a_185), (.ref b_185)])) X191 hx rfl rfl rfl (pc0 := 124) (pc' := 129) (same := false) rfl (hb hby at_124) rfl (decide_eq_false fun q => (Ne.symm q185_2) (Value.ref.inj q)) (by decide) (by decide) ?_
      show Steps pP.tables eE below (T191.setTop (mkF mM 129 Ls192 [])) _
      refine XS.aload X191.here hx rfl (hb hby at_129) rfl rfl ?_
      show Steps pP.tables eE below (T191.setTop (mkF mM 131 Ls192 [(.ref b169)])) _
      refine XS.aload X191.here hx rfl (hb hby at_131) rfl rfl ?_
      show Steps pP.tables eE below (T191.setTop (mkF mM 133 Ls192 [(.ref a_185), (.ref b169)])) _
      refine st193.trans ?_
      show Steps pP.tables eE below (T193.setTop (mkF mM 136 Ls192 [(.ref b169), (.ref b169)])) _
      refine st194.trans ?_
      show Steps pP.tables eE below (T194.setTop (mkF mM 139 Ls192 [(.int (1 : Int32))])) _
      refine XS.ifNo X194.here hx rfl (hb hby at_139) rfl ((if0 _ _).trans (feq (by decide : ¬ ((1 : Int32) = (0 : Int32)))).1) ?_
      show Steps pP.tables eE below (T194.setTop (mkF mM 142 Ls192 [])) _
      refine XS.aload X194.here hx rfl (hb hby at_142) rfl rfl ?_
      show Steps pP.tables eE below (T194.setTop (mkF mM 144 Ls192 [(.ref b169)])) _
      refine XS.aload X194.here hx rfl (hb hby at_144) rfl rfl ?_
      show Steps pP.tables eE below (T194.setTop (mkF mM 146 Ls192 [(.ref b_185), (.ref b169)])) _
      refine st196.trans ?_
      show Steps pP.tables eE below (T196.setTop (mkF mM 149 Ls192 [(.ref b169), (.ref b169)])) _
      refine st197.trans ?_
      show Steps pP.tables eE below (T197.setTop (mkF mM 152 Ls192 [(.int (1 : Int32))])) _
      refine XS.ifNo X197.here hx rfl (hb hby at_152) rfl ((if0 _ _).trans (feq (by decide : ¬ ((1 : Int32) = (0 : Int32)))).1) ?_
      show Steps pP.tables eE below (T197.setTop (mkF mM 155 Ls192 [])) _
      refine XS.iconst X197.here hx rfl (hb hby at_155) ?_
      show Steps pP.tables eE below (T197.setTop (mkF mM 156 Ls192 [(.int (1 : Int32))])) _
      refine XS.goto X197.here hx rfl (pc0 := 156) (pc' := 160) rfl (hb hby at_156) (by decide) (by decide) ?_
      show Steps pP.tables eE below (T197.setTop (mkF mM 160 Ls192 [(.int (1 : Int32))])) _
      refine XS.istore X197.here hx rfl (hb hby at_160) rfl (l' := Ls198) rfl ?_
      show Steps pP.tables eE below (T197.setTop (mkF mM 162 Ls198 [])) _
      refine XS.iload X197.here hx rfl (hb hby at_162) rfl ?_
      show Steps pP.tables eE below (T197.setTop (mkF mM 164 Ls198 [(.int (1 : Int32))])) _
      refine XS.ifNo X197.here hx rfl (hb hby at_164) rfl ((if0 _ _).trans (feq (by decide : ¬ ((1 : Int32) = (0 : Int32)))).1) ?_
      show Steps pP.tables eE below (T197.setTop (mkF mM 167 Ls198 [])) _
      refine XS.aload X197.here hx rfl (hb hby at_167) rfl rfl ?_
      show Steps pP.tables eE below (T197.setTop (mkF mM 169 Ls198 [(.ref a_185)])) _
      refine st199.trans ?_
      show Steps pP.tables eE below (T199.setTop (mkF mM 172 Ls198 [(.int (0 : Int32))])) _
      refine XS.ifNo X199.here hx rfl (hb hby at_172) rfl ((if0 _ _).trans (teq (by decide : (0 : Int32) = (0 : Int32))).2) ?_
      show Steps pP.tables eE below (T199.setTop (mkF mM 175 Ls198 [])) _
      refine XS.aload X199.here hx rfl (hb hby at_175) rfl rfl ?_
      show Steps pP.tables eE below (T199.setTop (mkF mM 177 Ls198 [(.ref b_185)])) _
      refine st200.trans ?_
      show Steps pP.tables eE below (T200.setTop (mkF mM 180 Ls198 [(.int (1 : Int32))])) _
      refine XS.ifNo X200.here hx rfl (hb hby at_180) rfl ((if0 _ _).trans (feq (by decide : ¬ ((1 : Int32) = (0 : Int32)))).1) ?_
      show Steps pP.tables eE below (T200.setTop (mkF mM 183 Ls198 [])) _
      refine XS.iconst X200.here hx rfl (hb hby at_183) ?_
      show Steps pP.tables eE below (T200.setTop (mkF mM 184 Ls198 [(.int (1 : Int32))])) _
      refine XS.goto X200.here hx rfl (pc0 := 184) (pc' := 188) rfl (hb hby at_184) (by decide) (by decide) ?_
      show Steps pP.tables eE below (T200.setTop (mkF mM 188 Ls198 [(.int (1 : Int32))])) _
      refine XS.istore X200.here hx rfl (hb hby at_188) rfl (l' := Ls201) rfl ?_
      show Steps pP.tables eE below (T200.setTop (mkF mM 190 Ls201 [])) _
      refine XS.iload X200.here hx rfl (hb hby at_190) rfl ?_
      show Steps pP.tables eE below (T200.setTop (mkF mM 192 Ls201 [(.int (1 : Int32))])) _
      refine XS.ifNo X200.here hx rfl (hb hby at_192) rfl ((if0 _ _).trans (feq (by decide : ¬ ((1 : Int32) = (0 : Int32)))).1) ?_
      show Steps pP.tables eE below (T200.setTop (mkF mM 195 Ls201 [])) _
      refine XS.aload X200.here hx rfl (hb hby at_195) rfl rfl ?_
      show Steps pP.tables eE below (T200.setTop (mkF mM 197 Ls201 [(.ref b_185)])) _
      refine st202.trans ?_
      show Steps pP.tables eE below (T202.setTop (mkF mM 200 Ls201 [(.ref a_185)])) _
      refine XS.aload X202.here hx rfl (hb hby at_200) rfl rfl ?_
      show Steps pP.tables eE below (T202.setTop (mkF mM 202 Ls201 [(.ref a_185), (.ref a_185)])) _
      refine Jvm.RoadKit.acmp (g := (mkF mM 202 Ls201 [(.ref a_185), (.ref a_185)])) X202 hx rfl rfl rfl (pc0 := 202) (pc' := 205) (same := true) rfl (hb hby at_202) rfl (decide_eq_true rfl) (by decide) (by decide) ?_
      show Steps pP.tables eE below (T202.setTop (mkF mM 205 Ls201 [])) _
      refine XS.iconst X202.here hx rfl (hb hby at_205) ?_
      show Steps pP.tables eE below (T202.setTop (mkF mM 206 Ls201 [(.int (1 : Int32))])) _
      refine XS.goto X202.here hx rfl (pc0 := 206) (pc' := 210) rfl (hb hby at_206) (by decide) (by decide) ?_
      show Steps pP.tables eE below (T202.setTop (mkF mM 210 Ls201 [(.int (1 : Int32))])) _
      refine XS.istore X202.here hx rfl (hb hby at_210) rfl (l' := Ls203) rfl ?_
      show Steps pP.tables eE below (T202.setTop (mkF mM 212 Ls203 [])) _
      refine XS.aload X202.here hx rfl (hb hby at_212) rfl rfl ?_
      show Steps pP.tables eE below (T202.setTop (mkF mM 214 Ls203 [(.ref a_185)])) _
      refine st204.trans ?_
      show Steps pP.tables eE below (T204.setTop (mkF mM 217 Ls203 [(.int ((2 : Int32) * p3))])) _
      refine XS.istore X204.here hx rfl (hb hby at_217) rfl (l' := Ls205) rfl ?_
      show Steps pP.tables eE below (T204.setTop (mkF mM 219 Ls205 [])) _
      refine XS.aload X204.here hx rfl (hb hby at_219) rfl rfl ?_
      show Steps pP.tables eE below (T204.setTop (mkF mM 221 Ls205 [(.ref b_185)])) _
      refine st206.trans ?_
      show Steps pP.tables eE below (T206.setTop (mkF mM 224 Ls205 [(.int (((2 : Int32) * p3) + (1 : Int32)))])) _
      refine XS.istore X206.here hx rfl (hb hby at_224) rfl (l' := Ls207) rfl ?_
      show Steps pP.tables eE below (T206.setTop (mkF mM 226 Ls207 [])) _
      refine XS.iload X206.here hx rfl (hb hby at_226) rfl ?_
      show Steps pP.tables eE below (T206.setTop (mkF mM 228 Ls207 [(.int (1 : Int32))])) _
      refine XS.ifNo X206.here hx rfl (hb hby at_228) rfl ((if0 _ _).trans (feq (by decide : ¬ ((1 : Int32) = (0 : Int32)))).1) ?_
      show Steps pP.tables eE below (T206.setTop (mkF mM 231 Ls207 [])) _
      refine XS.iload X206.here hx rfl (hb hby at_231) rfl ?_
      show Steps pP.tables eE below (T206.setTop (mkF mM 233 Ls207 [(.int ((2 : Int32) * p3))])) _
      refine XS.iconst X206.here hx rfl (hb hby at_233) ?_
      show Steps pP.tables eE below (T206.setTop (mkF mM 234 Ls207 [(.int (1 : Int32)), (.int ((2 : Int32) * p3))])) _
      refine XS.iand X206.here hx rfl (hb hby at_234) rfl ?_
      show Steps pP.tables eE below (T206.setTop (mkF mM 235 Ls207 [(.int (((2 : Int32) * p3) &&& (1 : Int32)))])) _
      refine XS.ifNo X206.here hx rfl (hb hby at_235) rfl ((if0 _ _).trans (teq (own_even p3)).2) ?_
      show Steps pP.tables eE below (T206.setTop (mkF mM 238 Ls207 [])) _
      refine XS.iload X206.here hx rfl (hb hby at_238) rfl ?_
      show Steps pP.tables eE below (T206.setTop (mkF mM 240 Ls207 [(.int (((2 : Int32) * p3) + (1 : Int32)))])) _
      refine XS.iload X206.here hx rfl (hb hby at_240) rfl ?_
      show Steps pP.tables eE below (T206.setTop (mkF mM 242 Ls207 [(.int ((2 : Int32) * p3)), (.int (((2 : Int32) * p3) + (1 : Int32)))])) _
      refine XS.iconst X206.here hx rfl (hb hby at_242) ?_
      show Steps pP.tables eE below (T206.setTop (mkF mM 243 Ls207 [(.int (1 : Int32)), (.int ((2 : Int32) * p3)), (.int (((2 : Int32) * p3) + (1 : Int32)))])) _
      refine XS.iadd X206.here hx rfl (hb hby at_243) rfl ?_
      show Steps pP.tables eE below (T206.setTop (mkF mM 244 Ls207 [(.int (((2 : Int32) * p3) + (1 : Int32))), (.int (((2 : Int32) * p3) + (1 : Int32)))])) _
      refine XS.icmpNo X206.here hx rfl (hb hby at_244) rfl (teq (rfl : (((2 : Int32) * p3) + (1 : Int32)) = (((2 : Int32) * p3) + (1 : Int32)))).2 ?_
      show Steps pP.tables eE below (T206.setTop (mkF mM 247 Ls207 [])) _
      refine XS.iconst X206.here hx rfl (hb hby at_247) ?_
      show Steps pP.tables eE below (T206.setTop (mkF mM 248 Ls207 [(.int (1 : Int32))])) _
      refine XS.goto X206.here hx rfl (pc0 := 248) (pc' := 252) rfl (hb hby at_248) (by decide) (by decide) ?_
      show Steps pP.tables eE below (T206.setTop (mkF mM 252 Ls207 [(.int (1 : Int32))])) _
      refine XS.istore X206.here hx rfl (hb hby at_252) rfl (l' := Ls208) rfl ?_
      show Steps pP.tables eE below (T206.setTop (mkF mM 254 Ls208 [])) _
      refine XS.aload X206.here hx rfl (hb hby at_254) rfl rfl ?_
      show Steps pP.tables eE below (T206.setTop (mkF mM 256 Ls208 [(.ref b169)])) _
      refine XS.iload X206.here hx rfl (hb hby at_256) rfl ?_
      show Steps pP.tables eE below (T206.setTop (mkF mM 258 Ls208 [(.int ((p3 + (1 : Int32)) + (p4 &&& (16383 : Int32)))), (.ref b169)])) _
      refine st209 _ ?_
      show Steps pP.tables eE below (T209.setTop (mkF mM 261 Ls208 [(.ref a_209)])) _
      refine XS.astore X209.here hx rfl (hb hby at_261) rfl rfl (l' := Ls213) rfl ?_
      show Steps pP.tables eE below (T209.setTop (mkF mM 263 Ls213 [])) _
      refine XS.iload X209.here hx rfl (hb hby at_263) rfl ?_
      show Steps pP.tables eE below (T209.setTop (mkF mM 265 Ls213 [(.int (1 : Int32))])) _
      refine XS.ifNo X209.here hx rfl (hb hby at_265) rfl ((if0 _ _).trans (feq (by decide : ¬ ((1 : Int32) = (0 : Int32)))).1) ?_
      show Steps pP.tables eE below (T209.setTop (mkF mM 268 Ls213 [])) _
      refine XS.aload X209.here hx rfl (hb hby at_268) rfl rfl ?_
      show Steps pP.tables eE below (T209.setTop (mkF mM 270 Ls213 [(.ref a_209)])) _
      refine XS.aload X209.here hx rfl (hb hby at_270) rfl rfl ?_
      show Steps pP.tables eE below (T209.setTop (mkF mM 272 Ls213 [(.ref a_185), (.ref a_209)])) _
      refine Jvm.RoadKit.acmp (g := (mkF mM 272 Ls213 [(.ref a_185), (.ref a_209)])) X209 hx rfl rfl rfl (pc0 := 272) (pc' := 275) (same := false) rfl (hb hby at_272) rfl (decide_eq_false fun q => (Ne.symm (Nat.ne_of_lt (Nat.lt_of_lt_of_le (q185_3).lt q209_0))) (Value.ref.inj q)) (by decide) (by decide) ?_
      show Steps pP.tables eE below (T209.setTop (mkF mM 275 Ls213 [])) _
      refine XS.aload X209.here hx rfl (hb hby at_275) rfl rfl ?_
      show Steps pP.tables eE below (T209.setTop (mkF mM 277 Ls213 [(.ref a_209)])) _
      refine st215.trans ?_
      show Steps pP.tables eE below (T215.setTop (mkF mM 280 Ls213 [(.int ((2 : Int32) * ((p3 + (1 : Int32)) + (p4 &&& (16383 : Int32)))))])) _
      refine XS.iload X215.here hx rfl (hb hby at_280) rfl ?_
      show Steps pP.tables eE below (T215.setTop (mkF mM 282 Ls213 [(.int ((2 : Int32) * p3)), (.int ((2 : Int32) * ((p3 + (1 : Int32)) + (p4 &&& (16383 : Int32)))))])) _
      refine XS.icmpNo X215.here hx rfl (hb hby at_282) rfl (feq (own_dif p3 p4)).1 ?_
      show Steps pP.tables eE below (T215.setTop (mkF mM 285 Ls213 [])) _
      refine XS.iconst X215.here hx rfl (hb hby at_285) ?_
      show Steps pP.tables eE below (T215.setTop (mkF mM 286 Ls213 [(.int (1 : Int32))])) _
      refine XS.goto X215.here hx rfl (pc0 := 286) (pc' := 290) rfl (hb hby at_286) (by decide) (by decide) ?_
      show Steps pP.tables eE below (T215.setTop (mkF mM 290 Ls213 [(.int (1 : Int32))])) _
      refine XS.istore X215.here hx rfl (hb hby at_290) rfl (l' := Ls216) rfl ?_
      show Steps pP.tables eE below (T215.setTop (mkF mM 292 Ls216 [])) _
      refine XS.iload X215.here hx rfl (hb hby at_292) rfl ?_
      show Steps pP.tables eE below (T215.setTop (mkF mM 294 Ls216 [(.int (1 : Int32))])) _
      exact retN X215 hx (t := .boolean) Bd.returns (by simp) (hb hby at_294) hr
    · show Q_law Z p0 p1 p2 p3 p4 zc fm h0 n0 _ T215.heap _
      rw [Kq215]
      exact ⟨rfl, N209, K212⟩
    · show CHr Z own_EL sS.vm sS.heap T215.vm T215.heap
      rw [hh, Kq215]
      exact CH210.trans (CHv.at X215 hZ0 hEL CH210.1)
theorem own_held {s : State} (h : constsHeld consts_1 s) : ∀ p ∈ own_EL, Jvm.Lit.constHeld s p.1 p.2 := fun p hp => h p ((by decide : ∀ p ∈ own_EL, p ∈ consts_1) p hp)
set_option maxRecDepth 65536 in
set_option maxHeartbeats 40000000 in
theorem comes_1 {Post : Tables → Env → Array Value → State → Outcome → State → Prop} (hpost : ∀ tb e args s v u, (limb_1_1.after args s (.returned v) u = true ∧ limb_1_2.after args s (.returned v) u = true ∧ True) → ReturnedEndW s (.returned v) u (Jvm.fieldLocs frame_1_writes args s ++ Jvm.arrayLocs frame_1_arrays args s ++ Jvm.staticLocs frame_1_statics s) 32 1152 → Post tb e args s (.returned v) u) :
    ArmFor flags0 classFile x code maxLocals ret World_1 tables_1 room_1 Calls_1 rest_1 Pre_1 Post := by
  intro l hfl _ _ p e ha hc hk s m args below hf hA hF happ hP
  obtain ⟨hcalls, hrest, hpre⟩ := hP
  obtain ⟨-, -, -, hnamed, -, -, -, hat⟩ := (Spec.applies_iff hf).mp happ
  obtain ⟨hg, hn⟩ := and_e (Cond.before_iff.mp (show (Jvm.Cond.and given_1 narrow_1).before args s = true from hpre))
  obtain ⟨hcnt, hg0⟩ := and_e hg
  obtain ⟨ga0, hg1⟩ := and_e hg0
  obtain ⟨ga1, hg2⟩ := and_e hg1
  obtain ⟨ga2, hg3⟩ := and_e hg2
  obtain ⟨ga3, hg4⟩ := and_e hg3
  have ga4 := hg4
  obtain ⟨w0, w1, w2, w3, w4, rfl⟩ : ∃ w0 w1 w2 w3 w4 : Value, args = #[w0, w1, w2, w3, w4] := by
    have hs : args.size = 5 := by simpa [Cond.value, given_1] using hcnt
    obtain ⟨L⟩ := args
    match L, hs with
    | [w0, w1, w2, w3, w4], _ => exact ⟨w0, w1, w2, w3, w4, rfl⟩
  have hw := fun d (hd : d ∈ tables_1) => atoms_spec (ws := Jvm.Cond.code x code maxLocals ret :: tables_1) hat d (List.mem_cons_of_mem _ hd)
  have hfit : Fit s := fun {y c} hc i hi => by
    obtain ⟨ha, rfl⟩ := Array.getElem?_eq_some_iff.mp hc
    have q := List.all_eq_true.mp ((Array.all_eq_true_iff_forall_mem.mp hF) _ (Array.getElem_mem ha)) i (List.mem_range.mpr hi)
    simpa [Array.getElem?_eq_getElem hi] using q
  obtain ⟨i0, ei0⟩ := is_v ga0
  obtain rfl : w0 = (.int i0) := Option.some.inj ei0
  obtain ⟨i1, ei1⟩ := is_v ga1
  obtain rfl : w1 = (.int i1) := Option.some.inj ei1
  obtain ⟨i2, ei2⟩ := is_v ga2
  obtain rfl : w2 = (.int i2) := Option.some.inj ei2
  obtain ⟨i3, ei3⟩ := is_v ga3
  obtain rfl : w3 = (.int i3) := Option.some.inj ei3
  obtain ⟨i4, ei4⟩ := is_v ga4
  obtain rfl : w4 = (.int i4) := Option.some.inj ei4
  obtain ⟨hsets, hown0⟩ := atoms_of _ (rest_1_c_eq ▸ (show rest_1_c.before _ s = true from hrest))
  have hr0 := Cond.before_iff.mp hown0
  have nzc := not_v (Cond.before_iff.mp (hsets _ (List.mem_of_getElem? (i := 2) rfl)))
  obtain ⟨zc, ezc⟩ := is_v (Cond.before_iff.mp (hsets _ (List.mem_of_getElem? (i := 1) rfl)))
  have Szc : Sta s s.heap "java/lang/String" "COMPACT_STRINGS" "Z" (.int zc) := Sta.start ezc (Or.inl (hsets _ (List.mem_of_getElem? (i := 0) rfl)))
  obtain ⟨fm, efm, rfm⟩ := isR_v (Cond.before_iff.mp (hsets _ (List.mem_of_getElem? (i := 8) rfl)))
  have Sfm : Sta s s.heap "jdk/internal/util/Preconditions" "SIOOBE_FORMATTER" "Ljava/util/function/BiFunction;" fm := Sta.start efm (Or.inl (hsets _ (List.mem_of_getElem? (i := 7) rfl)))
  have hzc : ¬ (zc = (0 : Int32)) := gotF (Cond.eq_ints ezc (Term.int_eval (0))) nzc
  have hcw : Jvm.Lit.compactW.before #[(.int i0), (.int i1), (.int i2), (.int i3), (.int i4)] s = true := hsets _ (List.mem_of_getElem? (i := 2) rfl)
  have hCH : CHv s own_EL s.vm s.heap := CHv.start (own_EW hw) (fun p hp => own_held (hcalls.1) p hp) hcw (w_19 hw) (w_2 hw)
  obtain ⟨n, o, h1, h2, h3, _, L, rfl, ⟨rfl, N, _⟩, -, q1, q2, q3, hq⟩ := rm_law l s _ hw tables_1 i0 i1 i2 i3 i4 zc fm s.heap s.heap.size (Old.start s) Szc hzc Sfm rfm p e ha hc hk s m _ below hf ((Spec.applies_iff_loose hf).mp happ).1 ⟨rfl, State.Warmed39.refl s, rfl, hCH, sf0⟩ trivial
  refine ⟨n, _, h1, h2, h3, hpost _ _ _ _ _ _ ⟨Cond.after_iff.mpr rfl, Cond.after_iff.mpr (eq_i res_at (Term.int_eval (1)) rfl), trivial⟩ ⟨q1, q2, q3, (hq.sift fun y hy => Or.inr (N y hy)).mono (by decide) (by decide)⟩⟩
theorem main_1_1 : Claimed_1_1 := comes_1 fun _ _ _ _ _ _ h hF => ⟨h.1, hF⟩
theorem main_1_2 : Claimed_1_2 := comes_1 fun _ _ _ _ _ _ h hF => ⟨h.2.1, hF⟩
end Jvm.Pilot.@@N@@
namespace Jvm.Pilot.@@N@@
open Jvm Jvm.ClassFile Sem Op Lib Jvm.Free Jvm.Stand Jvm.Pilot.@@N@@.Jvm.D
/-! MADE BY PROGRAM (witnessworld.py) out of the Statement's table words and the real class files: 20 classes; the members and pool entries that the words name. The judged class is class 1, her method 1. -/
namespace start1
open Jvm.ClassFile
def u (s : String) : CpInfo := .utf8 (stringToUtf16 s)
/-- a pool by its gaps: so many unusable entries, then the entry; so many at the end -/
def gap : Nat → List CpInfo → List CpInfo
  | 0, r => r
  | n + 1, r => .unusable :: gap n r
def poolList (es : List (Nat × CpInfo)) (last : Nat) : List CpInfo := es.foldr (fun e r => gap e.1 (e.2 :: r)) (gap last [])
def pool (es : List (Nat × CpInfo)) (last : Nat) : Array CpInfo := ⟨poolList es last⟩
def fileOf (pool : Array CpInfo) (this : Nat) (attrs : Array Attribute := #[]) (ms : Array MethodInfo := #[]) (fl : Nat := 33) (sup : Nat := 0) (ifs : Array Nat := #[]) (fds : Array FieldInfo := #[]) : ClassFile where
  minorVersion := 0
  majorVersion := 65
  constantPool := pool
  accessFlags := fl
  thisClass := this
  superClass := sup
  interfaces := ifs
  fields := fds
  methods := ms
  attributes := attrs
def plain (name : String) (sup : Option ClassId) : Class where
  name := name
  kind := .ordinary
  loader := none
  accessFlags := 33
  super := sup
  interfaces := #[]
  cf := none
  fields := #[]
  methods := #[]
  instanceTypes := #[]
  staticTypes := #[]
  resolved := #[]
  callSites := []
  init := .initialized
  statics := none
  mirror := none

def pool0 : Array CpInfo := pool [(5, u "<init>"), (0, u "()V"), (1, .class_ 10), (1, u "java/lang/Object")] 113

def k0c0 : Code := { maxStack := 0, maxLocals := 1, code := object_method_1_code, exceptionTable := #[], attributes := #[] }
def k0m0 : Method := { name := "<init>", desc := "()V", sig := { parameters := [], returnType := none }, accessFlags := 1, code := some k0c0 }
/-- java/lang/Object -/
def k0 : Class := { plain "java/lang/Object" none with
  accessFlags := 33
  interfaces := #[]
  cf := some (fileOf pool0 8 #[] #[{ accessFlags := 1, nameIndex := 5, descriptorIndex := 6, attributes := #[] }] 33 0 #[] #[])
  fields := #[]
  methods := #[k0m0]
  instanceTypes := #[]
  staticTypes := #[]
  resolved := Array.replicate 124 none
  statics := none }

def pool1 : Array CpInfo := pool [(2, .class_ 4), (1, u "java/lang/Object"), (0, u "<init>"), (0, u "()V"), (0, .class_ 8), (0, u "java/lang/String"), (0, .methodref 7 10), (0, .nameAndType 5 11), (0, u "([C)V"), (0, .methodref 7 13), (0, .nameAndType 14 15), (0, u "valueOf"), (0, u "(C)Ljava/lang/String;"), (0, .methodref 17 18), (0, .class_ 19), (0, .nameAndType 20 21), (0, u "com/example/subsumer/subsumer/Role"), (0, u "property"), (0, u "(Ljava/lang/String;I)Lcom/example/subsumer/subsumer/Role;"), (0, .methodref 17 23), (0, .nameAndType 24 25), (0, u "inverse"), (0, u "()Lcom/example/subsumer/subsumer/Role;"), (0, .methodref 17 27), (0, .nameAndType 28 29), (0, u "iri"), (0, u "()Ljava/lang/String;"), (0, .methodref 7 31), (0, .nameAndType 32 33), (0, u "equals"), (0, u "(Ljava/lang/Object;)Z"), (0, .methodref 17 35), (0, .nameAndType 36 37), (0, u "isInverse"), (0, u "()Z"), (0, .methodref 17 39), (0, .nameAndType 40 41), (0, u "hashCode"), (0, u "()I"), (0, .class_ 43), (0, u "com/example/subsumer/subsumer/RolePropertyPinLaw"), (2, u "law"), (0, u "(IIIII)Z")] 5

def k1m0 : Method := { name := "<init>", desc := "()V", sig := { parameters := [], returnType := none }, accessFlags := 1, code := none }
def k1c1 : Code := { maxStack := 5, maxLocals := 16, code := code, exceptionTable := #[], attributes := #[] }
def k1m1 : Method := { name := "law", desc := "(IIIII)Z", sig := { parameters := [.int, .int, .int, .int, .int], returnType := some .boolean }, accessFlags := 9, code := some k1c1 }
/-- com/example/subsumer/subsumer/RolePropertyPinLaw -/
def k1 : Class := { plain "com/example/subsumer/subsumer/RolePropertyPinLaw" (some 0) with
  accessFlags := 49
  interfaces := #[]
  cf := some (fileOf pool1 42 #[] #[{ accessFlags := 1, nameIndex := 5, descriptorIndex := 6, attributes := #[] }, { accessFlags := 9, nameIndex := 46, descriptorIndex := 47, attributes := #[] }] 49 2 #[] #[])
  fields := #[]
  methods := #[k1m0, k1m1]
  instanceTypes := #[]
  staticTypes := #[]
  resolved := Array.replicate 53 none
  statics := none }

def pool2 : Array CpInfo := pool [(1, .class_ 2), (0, u "java/io/Serializable"), (0, .class_ 4), (0, u "java/lang/Object")] 2

/-- java/io/Serializable -/
def k2 : Class := { plain "java/io/Serializable" (some 0) with
  accessFlags := 1537
  interfaces := #[]
  cf := some (fileOf pool2 1 #[] #[] 1537 3 #[] #[])
  fields := #[]
  methods := #[]
  instanceTypes := #[]
  staticTypes := #[]
  resolved := Array.replicate 7 none
  statics := none }

def pool3 : Array CpInfo := pool [(1, .class_ 2), (0, u "java/lang/Comparable"), (0, .class_ 4), (0, u "java/lang/Object")] 7

/-- java/lang/Comparable -/
def k3 : Class := { plain "java/lang/Comparable" (some 0) with
  accessFlags := 1537
  interfaces := #[]
  cf := some (fileOf pool3 1 #[] #[] 1537 3 #[] #[])
  fields := #[]
  methods := #[]
  instanceTypes := #[]
  staticTypes := #[]
  resolved := Array.replicate 12 none
  statics := none }

def pool4 : Array CpInfo := pool [(2, .class_ 4), (1, u "java/lang/CharSequence"), (42, .class_ 48), (0, u "java/lang/CharSequence$1CodePointIterator"), (10, .class_ 60), (0, u "java/lang/CharSequence$1CharIterator"), (5, .class_ 67), (0, u "java/lang/Object")] 63

/-- java/lang/CharSequence -/
def k4 : Class := { plain "java/lang/CharSequence" (some 0) with
  accessFlags := 1537
  interfaces := #[]
  cf := some (fileOf pool4 2 #[.nestMembers #[47, 59]] #[] 1537 66 #[] #[])
  fields := #[]
  methods := #[]
  instanceTypes := #[]
  staticTypes := #[]
  resolved := Array.replicate 131 none
  statics := none }

def pool5 : Array CpInfo := pool [(1, .class_ 2), (0, u "java/lang/constant/Constable"), (0, .class_ 4), (0, u "java/lang/Object")] 6

/-- java/lang/constant/Constable -/
def k5 : Class := { plain "java/lang/constant/Constable" (some 0) with
  accessFlags := 1537
  interfaces := #[]
  cf := some (fileOf pool5 1 #[] #[] 1537 3 #[] #[])
  fields := #[]
  methods := #[]
  instanceTypes := #[]
  staticTypes := #[]
  resolved := Array.replicate 11 none
  statics := none }

def pool6 : Array CpInfo := pool [(1, .class_ 2), (0, u "java/lang/constant/ConstantDesc"), (0, .class_ 4), (0, u "java/lang/Object")] 32

/-- java/lang/constant/ConstantDesc -/
def k6 : Class := { plain "java/lang/constant/ConstantDesc" (some 0) with
  accessFlags := 1537
  interfaces := #[]
  cf := some (fileOf pool6 1 #[] #[] 1537 3 #[] #[])
  fields := #[]
  methods := #[]
  instanceTypes := #[]
  staticTypes := #[]
  resolved := Array.replicate 37 none
  statics := none }

def pool7 : Array CpInfo := pool [(1, .methodref 2 3), (0, .class_ 4), (0, .nameAndType 5 6), (0, u "java/lang/Object"), (0, u "<init>"), (0, u "()V"), (0, .string 8), (0, u ""), (0, .fieldref 10 11), (0, .class_ 12), (0, .nameAndType 13 14), (0, u "java/lang/String"), (0, u "value"), (0, u "[B"), (0, .fieldref 10 16), (0, .nameAndType 17 18), (0, u "coder"), (0, u "B"), (2, u "hash"), (0, u "I"), (2, u "hashIsZero"), (0, u "Z"), (0, .methodref 10 28), (0, .nameAndType 5 29), (0, u "([CIILjava/lang/Void;)V"), (8, .fieldref 10 39), (0, .nameAndType 40 26), (0, u "COMPACT_STRINGS"), (1, .class_ 44), (1, u "java/lang/StringUTF16"), (0, u "compress"), (1, .methodref 42 48), (0, .nameAndType 49 50), (0, u "coderFromArrayLen"), (0, u "([BI)B"), (2, u "toBytes"), (53, .class_ 109), (1, u "java/lang/StringLatin1"), (67, .methodref 42 178), (0, .nameAndType 45 179), (0, u "([CII)[B"), (29, .methodref 10 210), (0, .nameAndType 5 211), (0, u "([BB)V"), (157, u "(C)Z"), (173, u "equals"), (29, u "(Ljava/lang/Object;)Z"), (1, .class_ 576), (0, u "java/lang/CharSequence"), (22, u "CASE_INSENSITIVE_ORDER"), (0, u "Ljava/util/Comparator;"), (181, u "valueOf"), (0, u "(C)Ljava/lang/String;"), (226, u "([C)V"), (4, .methodref 107 1016), (0, .nameAndType 1017 369), (0, u "canEncode"), (0, .methodref 107 1019), (0, .nameAndType 53 1020), (0, u "(C)[B"), (80, u "serialPersistentFields"), (0, u "[Ljava/io/ObjectStreamField;"), (0, .class_ 1104), (0, u "java/lang/String$CaseInsensitiveComparator"), (1, .class_ 1107), (0, u "java/io/Serializable"), (0, .class_ 1109), (0, u "java/lang/Comparable"), (0, .class_ 1111), (0, u "java/lang/constant/Constable"), (0, .class_ 1113), (0, u "java/lang/constant/ConstantDesc"), (2, u "serialVersionUID"), (0, u "J"), (3, u "REPL"), (0, u "C"), (2, u "LATIN1"), (1, u "UTF16")] 323

def k7m0 : Method := { name := "<init>", desc := "()V", sig := { parameters := [], returnType := none }, accessFlags := 1, code := none }
def k7c1 : Code := { maxStack := 5, maxLocals := 2, code := jdk_42_method_3_code, exceptionTable := #[], attributes := #[] }
def k7m1 : Method := { name := "<init>", desc := "([C)V", sig := { parameters := [(.array .char)], returnType := none }, accessFlags := 1, code := some k7c1 }
def k7c2 : Code := { maxStack := 2, maxLocals := 3, code := jdk_42_method_66_code, exceptionTable := #[], attributes := #[] }
def k7m2 : Method := { name := "equals", desc := "(Ljava/lang/Object;)Z", sig := { parameters := [(.object "java/lang/Object")], returnType := some .boolean }, accessFlags := 1, code := some k7c2 }
def k7c3 : Code := { maxStack := 4, maxLocals := 1, code := jdk_42_method_139_code, exceptionTable := #[], attributes := #[] }
def k7m3 : Method := { name := "valueOf", desc := "(C)Ljava/lang/String;", sig := { parameters := [.char], returnType := some (.object "java/lang/String") }, accessFlags := 9, code := some k7c3 }
def k7c4 : Code := { maxStack := 4, maxLocals := 6, code := jdk_42_method_149_code, exceptionTable := #[], attributes := #[] }
def k7m4 : Method := { name := "<init>", desc := "([CIILjava/lang/Void;)V", sig := { parameters := [(.array .char), .int, .int, (.object "java/lang/Void")], returnType := none }, accessFlags := 2, code := some k7c4 }
def k7c5 : Code := { maxStack := 2, maxLocals := 3, code := jdk_42_method_151_code, exceptionTable := #[], attributes := #[] }
def k7m5 : Method := { name := "<init>", desc := "([BB)V", sig := { parameters := [(.array .byte), .byte], returnType := none }, accessFlags := 0, code := some k7c5 }
/-- java/lang/String -/
def k7 : Class := { plain "java/lang/String" (some 0) with
  accessFlags := 49
  interfaces := #[2, 3, 4, 5, 6]
  cf := some (fileOf pool7 10 #[.nestMembers #[1103]] #[{ accessFlags := 1, nameIndex := 5, descriptorIndex := 6, attributes := #[] }, { accessFlags := 1, nameIndex := 5, descriptorIndex := 1010, attributes := #[] }, { accessFlags := 1, nameIndex := 543, descriptorIndex := 573, attributes := #[] }, { accessFlags := 9, nameIndex := 782, descriptorIndex := 783, attributes := #[] }, { accessFlags := 2, nameIndex := 5, descriptorIndex := 29, attributes := #[] }, { accessFlags := 0, nameIndex := 5, descriptorIndex := 211, attributes := #[] }] 49 2 #[1106, 1108, 575, 1110, 1112] #[{ accessFlags := 18, nameIndex := 13, descriptorIndex := 14, attributes := #[] }, { accessFlags := 18, nameIndex := 17, descriptorIndex := 18, attributes := #[] }, { accessFlags := 2, nameIndex := 21, descriptorIndex := 22, attributes := #[] }, { accessFlags := 2, nameIndex := 25, descriptorIndex := 26, attributes := #[] }, { accessFlags := 26, nameIndex := 1116, descriptorIndex := 1117, attributes := #[] }, { accessFlags := 24, nameIndex := 40, descriptorIndex := 26, attributes := #[] }, { accessFlags := 26, nameIndex := 1101, descriptorIndex := 1102, attributes := #[] }, { accessFlags := 26, nameIndex := 1121, descriptorIndex := 1122, attributes := #[] }, { accessFlags := 25, nameIndex := 599, descriptorIndex := 600, attributes := #[] }, { accessFlags := 24, nameIndex := 1125, descriptorIndex := 18, attributes := #[] }, { accessFlags := 24, nameIndex := 1127, descriptorIndex := 18, attributes := #[] }])
  fields := #[{ name := "value", type := (.array .byte), accessFlags := 18, slot := 0, constantValue := 0 }, { name := "coder", type := .byte, accessFlags := 18, slot := 1, constantValue := 0 }, { name := "hash", type := .int, accessFlags := 2, slot := 2, constantValue := 0 }, { name := "hashIsZero", type := .boolean, accessFlags := 2, slot := 3, constantValue := 0 }, { name := "serialVersionUID", type := .long, accessFlags := 26, slot := 0, constantValue := 0 }, { name := "COMPACT_STRINGS", type := .boolean, accessFlags := 24, slot := 1, constantValue := 0 }, { name := "serialPersistentFields", type := (.array (.object "java/io/ObjectStreamField")), accessFlags := 26, slot := 2, constantValue := 0 }, { name := "REPL", type := .char, accessFlags := 26, slot := 3, constantValue := 0 }, { name := "CASE_INSENSITIVE_ORDER", type := (.object "java/util/Comparator"), accessFlags := 25, slot := 4, constantValue := 0 }, { name := "LATIN1", type := .byte, accessFlags := 24, slot := 5, constantValue := 0 }, { name := "UTF16", type := .byte, accessFlags := 24, slot := 6, constantValue := 0 }]
  methods := #[k7m0, k7m1, k7m2, k7m3, k7m4, k7m5]
  instanceTypes := #[(.array .byte), .byte, .int, .boolean]
  staticTypes := #[.long, .boolean, (.array (.object "java/io/ObjectStreamField")), .char, (.object "java/util/Comparator"), .byte, .byte]
  resolved := Array.replicate 1451 none
  statics := some 0 }

def pool8 : Array CpInfo := pool [(6, .class_ 8), (1, u "java/lang/Object"), (0, u "<init>"), (0, u "()V"), (1, .class_ 14), (1, u "java/lang/StringUTF16"), (31, u "$assertionsDisabled"), (0, u "Z"), (13, u "HI_BYTE_SHIFT"), (0, u "I"), (2, u "LO_BYTE_SHIFT"), (49, .methodref 12 116), (0, .nameAndType 117 118), (0, u "compress"), (0, u "([CI[BII)I"), (3, u "([CII)[B"), (138, u "coderFromArrayLen"), (0, u "([BI)B"), (106, .class_ 371), (1, u "java/lang/StringUTF16$LinesSpliterator"), (58, u "MAX_LENGTH"), (196, .class_ 628), (0, u "java/lang/StringUTF16$CodePointsSpliterator"), (0, .class_ 630), (0, u "java/lang/StringUTF16$CharsSpliterator")] 4

def k8m0 : Method := { name := "<init>", desc := "()V", sig := { parameters := [], returnType := none }, accessFlags := 0, code := none }
def k8c1 : Code := { maxStack := 2, maxLocals := 2, code := jdk_52_method_15_code, exceptionTable := #[], attributes := #[] }
def k8m1 : Method := { name := "coderFromArrayLen", desc := "([BI)B", sig := { parameters := [(.array .byte), .int], returnType := some .byte }, accessFlags := 8, code := some k8c1 }
def k8c2 : Code := { maxStack := 5, maxLocals := 6, code := jdk_52_method_16_code, exceptionTable := #[], attributes := #[] }
def k8m2 : Method := { name := "compress", desc := "([CII)[B", sig := { parameters := [(.array .char), .int, .int], returnType := some (.array .byte) }, accessFlags := 9, code := some k8c2 }
def k8c3 : Code := { maxStack := 3, maxLocals := 7, code := jdk_52_method_21_code, exceptionTable := #[], attributes := #[] }
def k8m3 : Method := { name := "compress", desc := "([CI[BII)I", sig := { parameters := [(.array .char), .int, (.array .byte), .int, .int], returnType := some .int }, accessFlags := 9, code := some k8c3 }
/-- java/lang/StringUTF16 -/
def k8 : Class := { plain "java/lang/StringUTF16" (some 0) with
  accessFlags := 48
  interfaces := #[]
  cf := some (fileOf pool8 12 #[.nestMembers #[627, 629, 369]] #[{ accessFlags := 0, nameIndex := 9, descriptorIndex := 10, attributes := #[] }, { accessFlags := 8, nameIndex := 261, descriptorIndex := 262, attributes := #[] }, { accessFlags := 9, nameIndex := 117, descriptorIndex := 122, attributes := #[] }, { accessFlags := 9, nameIndex := 117, descriptorIndex := 118, attributes := #[] }] 48 6 #[] #[{ accessFlags := 26, nameIndex := 61, descriptorIndex := 62, attributes := #[] }, { accessFlags := 26, nameIndex := 65, descriptorIndex := 62, attributes := #[] }, { accessFlags := 24, nameIndex := 430, descriptorIndex := 62, attributes := #[] }, { accessFlags := 4120, nameIndex := 46, descriptorIndex := 47, attributes := #[] }])
  fields := #[{ name := "HI_BYTE_SHIFT", type := .int, accessFlags := 26, slot := 0, constantValue := 0 }, { name := "LO_BYTE_SHIFT", type := .int, accessFlags := 26, slot := 1, constantValue := 0 }, { name := "MAX_LENGTH", type := .int, accessFlags := 24, slot := 2, constantValue := 0 }, { name := "$assertionsDisabled", type := .boolean, accessFlags := 4120, slot := 3, constantValue := 0 }]
  methods := #[k8m0, k8m1, k8m2, k8m3]
  instanceTypes := #[]
  staticTypes := #[.int, .int, .int, .boolean]
  resolved := Array.replicate 635 none
  statics := none }

def pool9 : Array CpInfo := pool [(1, .methodref 2 3), (0, .class_ 4), (0, .nameAndType 5 6), (0, u "java/lang/Object"), (0, u "<init>"), (0, u "()V"), (0, .fieldref 8 9), (0, .class_ 10), (0, .nameAndType 11 12), (0, u "com/example/subsumer/subsumer/Role"), (0, u "iri"), (0, u "Ljava/lang/String;"), (0, .fieldref 8 14), (0, .nameAndType 15 16), (0, u "id"), (0, u "I"), (0, .fieldref 8 18), (0, .nameAndType 19 20), (0, u "inverse"), (0, u "Z"), (0, .methodref 8 22), (0, .nameAndType 5 23), (0, u "(Ljava/lang/String;IZ)V"), (0, .fieldref 8 25), (0, .nameAndType 26 27), (0, u "opposite"), (0, u "Lcom/example/subsumer/subsumer/Role;"), (2, u "property"), (0, u "(Ljava/lang/String;I)Lcom/example/subsumer/subsumer/Role;"), (0, u "()Ljava/lang/String;"), (0, u "isInverse"), (0, u "()Z"), (0, u "()Lcom/example/subsumer/subsumer/Role;"), (0, u "hashCode"), (0, u "()I")] 5

def k9c0 : Code := { maxStack := 2, maxLocals := 4, code := prog_21_method_1_code, exceptionTable := #[], attributes := #[] }
def k9m0 : Method := { name := "<init>", desc := "(Ljava/lang/String;IZ)V", sig := { parameters := [(.object "java/lang/String"), .int, .boolean], returnType := none }, accessFlags := 2, code := some k9c0 }
def k9c1 : Code := { maxStack := 5, maxLocals := 4, code := prog_21_method_2_code, exceptionTable := #[], attributes := #[] }
def k9m1 : Method := { name := "property", desc := "(Ljava/lang/String;I)Lcom/example/subsumer/subsumer/Role;", sig := { parameters := [(.object "java/lang/String"), .int], returnType := some (.object "com/example/subsumer/subsumer/Role") }, accessFlags := 8, code := some k9c1 }
def k9c2 : Code := { maxStack := 1, maxLocals := 1, code := prog_21_method_3_code, exceptionTable := #[], attributes := #[] }
def k9m2 : Method := { name := "iri", desc := "()Ljava/lang/String;", sig := { parameters := [], returnType := some (.object "java/lang/String") }, accessFlags := 0, code := some k9c2 }
def k9c3 : Code := { maxStack := 1, maxLocals := 1, code := prog_21_method_4_code, exceptionTable := #[], attributes := #[] }
def k9m3 : Method := { name := "isInverse", desc := "()Z", sig := { parameters := [], returnType := some .boolean }, accessFlags := 0, code := some k9c3 }
def k9c4 : Code := { maxStack := 1, maxLocals := 1, code := prog_21_method_5_code, exceptionTable := #[], attributes := #[] }
def k9m4 : Method := { name := "inverse", desc := "()Lcom/example/subsumer/subsumer/Role;", sig := { parameters := [], returnType := some (.object "com/example/subsumer/subsumer/Role") }, accessFlags := 0, code := some k9c4 }
def k9c5 : Code := { maxStack := 1, maxLocals := 1, code := prog_21_method_6_code, exceptionTable := #[], attributes := #[] }
def k9m5 : Method := { name := "hashCode", desc := "()I", sig := { parameters := [], returnType := some .int }, accessFlags := 1, code := some k9c5 }
/-- com/example/subsumer/subsumer/Role -/
def k9 : Class := { plain "com/example/subsumer/subsumer/Role" (some 0) with
  accessFlags := 48
  interfaces := #[]
  cf := some (fileOf pool9 8 #[] #[{ accessFlags := 2, nameIndex := 5, descriptorIndex := 23, attributes := #[] }, { accessFlags := 8, nameIndex := 30, descriptorIndex := 31, attributes := #[] }, { accessFlags := 0, nameIndex := 11, descriptorIndex := 32, attributes := #[] }, { accessFlags := 0, nameIndex := 33, descriptorIndex := 34, attributes := #[] }, { accessFlags := 0, nameIndex := 19, descriptorIndex := 35, attributes := #[] }, { accessFlags := 1, nameIndex := 36, descriptorIndex := 37, attributes := #[] }] 48 2 #[] #[{ accessFlags := 18, nameIndex := 11, descriptorIndex := 12, attributes := #[] }, { accessFlags := 18, nameIndex := 15, descriptorIndex := 16, attributes := #[] }, { accessFlags := 18, nameIndex := 19, descriptorIndex := 20, attributes := #[] }, { accessFlags := 2, nameIndex := 26, descriptorIndex := 27, attributes := #[] }])
  fields := #[{ name := "iri", type := (.object "java/lang/String"), accessFlags := 18, slot := 0, constantValue := 0 }, { name := "id", type := .int, accessFlags := 18, slot := 1, constantValue := 0 }, { name := "inverse", type := .boolean, accessFlags := 18, slot := 2, constantValue := 0 }, { name := "opposite", type := (.object "com/example/subsumer/subsumer/Role"), accessFlags := 2, slot := 3, constantValue := 0 }]
  methods := #[k9m0, k9m1, k9m2, k9m3, k9m4, k9m5]
  instanceTypes := #[(.object "java/lang/String"), .int, .boolean, (.object "com/example/subsumer/subsumer/Role")]
  staticTypes := #[]
  resolved := Array.replicate 43 none
  statics := none }

def pool10 : Array CpInfo := pool [(4, .class_ 6), (1, u "java/lang/Object"), (0, u "<init>"), (0, u "()V"), (5, .class_ 16), (1, u "java/lang/StringLatin1"), (73, u "canEncode"), (14, u "(C)Z"), (15, u "$assertionsDisabled"), (0, u "Z"), (98, .class_ 223), (1, u "java/lang/StringLatin1$LinesSpliterator"), (156, u "toBytes"), (1, u "(C)[B"), (7, .class_ 391), (0, u "java/lang/StringLatin1$CharsSpliterator")] 3

def k10m0 : Method := { name := "<init>", desc := "()V", sig := { parameters := [], returnType := none }, accessFlags := 0, code := none }
def k10c1 : Code := { maxStack := 2, maxLocals := 1, code := jdk_43_method_3_code, exceptionTable := #[], attributes := #[] }
def k10m1 : Method := { name := "canEncode", desc := "(C)Z", sig := { parameters := [.char], returnType := some .boolean }, accessFlags := 9, code := some k10c1 }
def k10c2 : Code := { maxStack := 4, maxLocals := 1, code := jdk_43_method_46_code, exceptionTable := #[], attributes := #[] }
def k10m2 : Method := { name := "toBytes", desc := "(C)[B", sig := { parameters := [.char], returnType := some (.array .byte) }, accessFlags := 9, code := some k10c2 }
/-- java/lang/StringLatin1 -/
def k10 : Class := { plain "java/lang/StringLatin1" (some 0) with
  accessFlags := 48
  interfaces := #[]
  cf := some (fileOf pool10 14 #[.nestMembers #[390, 221]] #[{ accessFlags := 0, nameIndex := 7, descriptorIndex := 8, attributes := #[] }, { accessFlags := 9, nameIndex := 90, descriptorIndex := 105, attributes := #[] }, { accessFlags := 9, nameIndex := 380, descriptorIndex := 382, attributes := #[] }] 48 4 #[] #[{ accessFlags := 4120, nameIndex := 121, descriptorIndex := 122, attributes := #[] }])
  fields := #[{ name := "$assertionsDisabled", type := .boolean, accessFlags := 4120, slot := 0, constantValue := 0 }]
  methods := #[k10m0, k10m1, k10m2]
  instanceTypes := #[]
  staticTypes := #[.boolean]
  resolved := Array.replicate 395 none
  statics := none }

def pool11 : Array CpInfo := pool [(2, .class_ 4), (1, u "java/lang/Object"), (0, u "<init>"), (0, u "()V"), (17, .class_ 26), (1, u "jdk/internal/util/Preconditions"), (28, .class_ 56), (0, u "jdk/internal/util/Preconditions$4"), (57, .class_ 115), (0, u "jdk/internal/util/Preconditions$1"), (7, u "SIOOBE_FORMATTER"), (0, u "Ljava/util/function/BiFunction;"), (0, .class_ 126), (0, u "jdk/internal/util/Preconditions$2"), (3, u "AIOOBE_FORMATTER"), (0, .class_ 132), (0, u "jdk/internal/util/Preconditions$3"), (3, u "IOOBE_FORMATTER")] 57

def k11m0 : Method := { name := "<init>", desc := "()V", sig := { parameters := [], returnType := none }, accessFlags := 1, code := none }
/-- jdk/internal/util/Preconditions -/
def k11 : Class := { plain "jdk/internal/util/Preconditions" (some 0) with
  accessFlags := 33
  interfaces := #[]
  cf := some (fileOf pool11 24 #[.nestMembers #[55, 131, 125, 114]] #[{ accessFlags := 1, nameIndex := 5, descriptorIndex := 6, attributes := #[] }] 33 2 #[] #[{ accessFlags := 25, nameIndex := 123, descriptorIndex := 124, attributes := #[] }, { accessFlags := 25, nameIndex := 130, descriptorIndex := 124, attributes := #[] }, { accessFlags := 25, nameIndex := 136, descriptorIndex := 124, attributes := #[] }])
  fields := #[{ name := "SIOOBE_FORMATTER", type := (.object "java/util/function/BiFunction"), accessFlags := 25, slot := 0, constantValue := 0 }, { name := "AIOOBE_FORMATTER", type := (.object "java/util/function/BiFunction"), accessFlags := 25, slot := 1, constantValue := 0 }, { name := "IOOBE_FORMATTER", type := (.object "java/util/function/BiFunction"), accessFlags := 25, slot := 2, constantValue := 0 }]
  methods := #[k11m0]
  instanceTypes := #[]
  staticTypes := #[(.object "java/util/function/BiFunction"), (.object "java/util/function/BiFunction"), (.object "java/util/function/BiFunction")]
  resolved := Array.replicate 194 none
  statics := some 1 }

def pool12 : Array CpInfo := pool [(9, u "<init>"), (6, .class_ 18), (1, u "java/lang/Object"), (0, u "()V"), (1, .class_ 23), (1, u "jdk/internal/util/ArraysSupport"), (0, u "LOG2_ARRAY_LONG_INDEX_SCALE"), (0, u "I"), (2, u "U"), (0, u "Ljdk/internal/misc/Unsafe;"), (8, u "BIG_ENDIAN"), (0, u "Z"), (8, u "LOG2_BYTE_BIT_SIZE"), (4, u "LOG2_ARRAY_INT_INDEX_SCALE"), (54, u "JLA"), (0, u "Ljdk/internal/access/JavaLangAccess;"), (11, u "LOG2_ARRAY_BOOLEAN_INDEX_SCALE"), (9, u "LOG2_ARRAY_BYTE_INDEX_SCALE"), (5, u "LOG2_ARRAY_CHAR_INDEX_SCALE"), (5, u "LOG2_ARRAY_SHORT_INDEX_SCALE"), (18, u "LOG2_ARRAY_FLOAT_INDEX_SCALE"), (24, u "LOG2_ARRAY_DOUBLE_INDEX_SCALE"), (89, u "T_BOOLEAN"), (2, u "T_CHAR"), (1, u "T_FLOAT"), (1, u "T_DOUBLE"), (1, u "T_BYTE"), (1, u "T_SHORT"), (1, u "T_INT"), (1, u "T_LONG"), (1, u "SOFT_MAX_ARRAY_LENGTH")] 83

def k12m0 : Method := { name := "<init>", desc := "()V", sig := { parameters := [], returnType := none }, accessFlags := 2, code := none }
/-- jdk/internal/util/ArraysSupport -/
def k12 : Class := { plain "jdk/internal/util/ArraysSupport" (some 0) with
  accessFlags := 33
  interfaces := #[]
  cf := some (fileOf pool12 21 #[] #[{ accessFlags := 2, nameIndex := 9, descriptorIndex := 19, attributes := #[] }] 33 16 #[] #[{ accessFlags := 24, nameIndex := 28, descriptorIndex := 29, attributes := #[] }, { accessFlags := 26, nameIndex := 38, descriptorIndex := 39, attributes := #[] }, { accessFlags := 25, nameIndex := 121, descriptorIndex := 25, attributes := #[] }, { accessFlags := 25, nameIndex := 131, descriptorIndex := 25, attributes := #[] }, { accessFlags := 25, nameIndex := 137, descriptorIndex := 25, attributes := #[] }, { accessFlags := 25, nameIndex := 143, descriptorIndex := 25, attributes := #[] }, { accessFlags := 25, nameIndex := 53, descriptorIndex := 25, attributes := #[] }, { accessFlags := 25, nameIndex := 24, descriptorIndex := 25, attributes := #[] }, { accessFlags := 25, nameIndex := 162, descriptorIndex := 25, attributes := #[] }, { accessFlags := 25, nameIndex := 187, descriptorIndex := 25, attributes := #[] }, { accessFlags := 26, nameIndex := 48, descriptorIndex := 25, attributes := #[] }, { accessFlags := 25, nameIndex := 277, descriptorIndex := 25, attributes := #[] }, { accessFlags := 25, nameIndex := 280, descriptorIndex := 25, attributes := #[] }, { accessFlags := 25, nameIndex := 282, descriptorIndex := 25, attributes := #[] }, { accessFlags := 25, nameIndex := 284, descriptorIndex := 25, attributes := #[] }, { accessFlags := 25, nameIndex := 286, descriptorIndex := 25, attributes := #[] }, { accessFlags := 25, nameIndex := 288, descriptorIndex := 25, attributes := #[] }, { accessFlags := 25, nameIndex := 290, descriptorIndex := 25, attributes := #[] }, { accessFlags := 25, nameIndex := 292, descriptorIndex := 25, attributes := #[] }, { accessFlags := 26, nameIndex := 108, descriptorIndex := 109, attributes := #[] }, { accessFlags := 25, nameIndex := 294, descriptorIndex := 25, attributes := #[] }])
  fields := #[{ name := "U", type := (.object "jdk/internal/misc/Unsafe"), accessFlags := 24, slot := 0, constantValue := 0 }, { name := "BIG_ENDIAN", type := .boolean, accessFlags := 26, slot := 1, constantValue := 0 }, { name := "LOG2_ARRAY_BOOLEAN_INDEX_SCALE", type := .int, accessFlags := 25, slot := 2, constantValue := 0 }, { name := "LOG2_ARRAY_BYTE_INDEX_SCALE", type := .int, accessFlags := 25, slot := 3, constantValue := 0 }, { name := "LOG2_ARRAY_CHAR_INDEX_SCALE", type := .int, accessFlags := 25, slot := 4, constantValue := 0 }, { name := "LOG2_ARRAY_SHORT_INDEX_SCALE", type := .int, accessFlags := 25, slot := 5, constantValue := 0 }, { name := "LOG2_ARRAY_INT_INDEX_SCALE", type := .int, accessFlags := 25, slot := 6, constantValue := 0 }, { name := "LOG2_ARRAY_LONG_INDEX_SCALE", type := .int, accessFlags := 25, slot := 7, constantValue := 0 }, { name := "LOG2_ARRAY_FLOAT_INDEX_SCALE", type := .int, accessFlags := 25, slot := 8, constantValue := 0 }, { name := "LOG2_ARRAY_DOUBLE_INDEX_SCALE", type := .int, accessFlags := 25, slot := 9, constantValue := 0 }, { name := "LOG2_BYTE_BIT_SIZE", type := .int, accessFlags := 26, slot := 10, constantValue := 0 }, { name := "T_BOOLEAN", type := .int, accessFlags := 25, slot := 11, constantValue := 0 }, { name := "T_CHAR", type := .int, accessFlags := 25, slot := 12, constantValue := 0 }, { name := "T_FLOAT", type := .int, accessFlags := 25, slot := 13, constantValue := 0 }, { name := "T_DOUBLE", type := .int, accessFlags := 25, slot := 14, constantValue := 0 }, { name := "T_BYTE", type := .int, accessFlags := 25, slot := 15, constantValue := 0 }, { name := "T_SHORT", type := .int, accessFlags := 25, slot := 16, constantValue := 0 }, { name := "T_INT", type := .int, accessFlags := 25, slot := 17, constantValue := 0 }, { name := "T_LONG", type := .int, accessFlags := 25, slot := 18, constantValue := 0 }, { name := "JLA", type := (.object "jdk/internal/access/JavaLangAccess"), accessFlags := 26, slot := 19, constantValue := 0 }, { name := "SOFT_MAX_ARRAY_LENGTH", type := .int, accessFlags := 25, slot := 20, constantValue := 0 }]
  methods := #[k12m0]
  instanceTypes := #[]
  staticTypes := #[(.object "jdk/internal/misc/Unsafe"), .boolean, .int, .int, .int, .int, .int, .int, .int, .int, .int, .int, .int, .int, .int, .int, .int, .int, .int, (.object "jdk/internal/access/JavaLangAccess"), .int]
  resolved := Array.replicate 378 none
  statics := none }

def pool13 : Array CpInfo := pool [(1, u "java/lang/Cloneable"), (0, .class_ 1), (0, u "java/lang/Object"), (0, .class_ 3)] 3

/-- java/lang/Cloneable -/
def k13 : Class := { plain "java/lang/Cloneable" (some 0) with
  accessFlags := 1537
  interfaces := #[]
  cf := some (fileOf pool13 2 #[] #[] 1537 4 #[] #[])
  fields := #[]
  methods := #[]
  instanceTypes := #[]
  staticTypes := #[]
  resolved := Array.replicate 8 none
  statics := none }

/-- the primitive byte -/
def k14 : Class := { plain "byte" none with kind := .primitive 'B', accessFlags := 0x411 }
/-- [B -/
def k15 : Class := { plain "[B" (some 0) with kind := .array 14 .byte, interfaces := #[13, 2], accessFlags := 1041 }

/-- the primitive char -/
def k16 : Class := { plain "char" none with kind := .primitive 'C', accessFlags := 0x411 }
/-- [C -/
def k17 : Class := { plain "[C" (some 0) with kind := .array 16 .char, interfaces := #[13, 2], accessFlags := 1041 }

/-- the primitive int -/
def k18 : Class := { plain "int" none with kind := .primitive 'I', accessFlags := 0x411 }
/-- [I -/
def k19 : Class := { plain "[I" (some 0) with kind := .array 18 .int, interfaces := #[13, 2], accessFlags := 1041 }

def heap : Heap := #[{ cls := 7, slots := #[.long 0, .int 1, .null, .int 0, .null, .int 0, .int 0], vm := .statics 7 },
  { cls := 11, slots := #[.null, .null, .null], vm := .statics 11 }]
def classes : Array Class := #[k0, k1, k2, k3, k4, k5, k6, k7, k8, k9, k10, k11, k12, k13, k14, k15, k16, k17, k18, k19]
def interned : List (Array UInt16 × Addr) := []
def slotsUsed : Nat := 10
def theMethod : MethodId := ⟨1, 1⟩
def args0 : Array Value := #[.int 5, .int 5, .int 5, .int 5, .int 5]
def aboutOver (below : List Frame) : State where
  vm := { classes := classes, interned := interned.toArray }
  heap := heap
  slotsUsed := slotsUsed
  threads := #[{ frames := .invoking theMethod args0 :: below }]
def below0 : List Frame := [.native { method := ⟨0, 0⟩, args := #[] }]
def about1 : State := aboutOver below0
def p0 : Program := .bare "" "" ""
def e0 : Env := launch0.env 0 0 0
theorem w_frames : about1.frames = Frame.invoking theMethod args0 :: below0 := rfl
set_option maxRecDepth 65536 in
theorem w_args : argsFit about1.vm theMethod args0 = true := by decide +kernel
set_option maxRecDepth 65536 in
theorem w_heap : heapFits about1 = true := by decide +kernel
set_option maxRecDepth 65536 in
theorem w_runnable : about1.curStatus? = some .runnable := by decide +kernel
set_option maxRecDepth 65536 in
theorem w_alone : about1.alone = true := by decide +kernel
set_option maxRecDepth 65536 in
theorem w_named : about1.methodNamed? x = some theMethod := by decide +kernel
set_option maxRecDepth 65536 in
theorem w_hears : about1.hears theMethod below0 = true := by decide +kernel
set_option maxRecDepth 65536 in
theorem w_ripe : about1.ripe theMethod args0 below0 = true := by decide +kernel
theorem w_running : about1.status = .running := rfl
set_option maxRecDepth 65536 in
theorem w_room : about1.hasRoom e0.platform room_1 = true :=
  launch0.hasRoom_least _ room_1 (by decide +kernel) (by decide +kernel) (by decide +kernel) (by decide +kernel) (by decide +kernel) (by decide +kernel)
theorem allAtoms_all (ts : List Jvm.Cond) (a : Array Jvm.Value) (st : Jvm.State) : (allAtoms ts).before a st = ts.all (fun c => c.before a st) := by
  induction ts with
  | nil => rfl
  | cons c t ih =>
    show (Jvm.Cond.and c (allAtoms t)).before a st = _
    rw [Jvm.Cond.before_and, ih, List.all_cons]
def words1 : List Jvm.Cond := Jvm.Cond.code x code maxLocals ret :: tables_1
/-- a 'code' word, met by the world's own term for the bytes: nothing is compared byte by byte -/
theorem code_word {y : MethodName} {bytes : ByteArray} {mx : Nat} {rt : Option FieldType} {a : Array Value} {s : State} {m : MethodId} {meth : Method} {c : Code} (h1 : s.methodNamed? y = some m) (h2 : s.vm.method? m = some meth) (h3 : meth.code = some c) (h4 : c.code = bytes)
    (h5 : (c.maxLocals == mx && c.exceptionTable.isEmpty && decide (c.maxStack ≤ mostOperands) && decide (meth.sig.returnType = rt) && !meth.locks && decide (parseMethodDescriptor y.desc = some meth.sig)) = true) : (Jvm.Cond.code y bytes mx rt).before a s = true := by
  simp only [Bool.and_eq_true, beq_iff_eq, Bool.not_eq_true', decide_eq_true_eq] at h5
  obtain ⟨⟨⟨⟨⟨g1, g2⟩, g3⟩, g4⟩, g5⟩, g6⟩ := h5
  simp [Cond.before, Cond.holds, Cond.value, h1, h2, h3, h4, g1, g2, g3, g4, g5, g6]
def isCode : Jvm.Cond → Bool
  | .code _ _ _ _ => true
  | _ => false
theorem all_split {L : List Jvm.Cond} {P : Jvm.Cond → Bool} (h1 : L.all (fun c => isCode c || P c) = true) (h2 : ∀ c ∈ L.filter isCode, P c = true) : L.all P = true := by
  refine List.all_eq_true.mpr fun c hc => ?_
  have h := List.all_eq_true.mp h1 c hc
  rcases Bool.eq_false_or_eq_true (isCode c) with hi | hi
  · exact h2 c (List.mem_filter.mpr ⟨hc, hi⟩)
  · simpa [hi] using h
set_option maxRecDepth 65536 in
theorem w_c0 : (Jvm.Cond.code x code maxLocals ret).before args0 about1 = true := code_word (m := ⟨1, 1⟩) (meth := k1m1) (c := k1c1) (by decide +kernel) rfl rfl rfl (by decide +kernel)
set_option maxRecDepth 65536 in
theorem w_c1 : (Jvm.Cond.code ({ cls := "java/lang/String", name := "<init>", desc := "([C)V" } : Jvm.MethodName) jdk_42_method_3_code (2 : Nat) (Option.none : Option Jvm.ClassFile.FieldType)).before args0 about1 = true := code_word (m := ⟨7, 1⟩) (meth := k7m1) (c := k7c1) (by decide +kernel) rfl rfl rfl (by decide +kernel)
set_option maxRecDepth 65536 in
theorem w_c2 : (Jvm.Cond.code ({ cls := "java/lang/String", name := "<init>", desc := "([CIILjava/lang/Void;)V" } : Jvm.MethodName) jdk_42_method_149_code (6 : Nat) (Option.none : Option Jvm.ClassFile.FieldType)).before args0 about1 = true := code_word (m := ⟨7, 4⟩) (meth := k7m4) (c := k7c4) (by decide +kernel) rfl rfl rfl (by decide +kernel)
set_option maxRecDepth 65536 in
theorem w_c3 : (Jvm.Cond.code ({ cls := "java/lang/Object", name := "<init>", desc := "()V" } : Jvm.MethodName) object_method_1_code (1 : Nat) (Option.none : Option Jvm.ClassFile.FieldType)).before args0 about1 = true := code_word (m := ⟨0, 0⟩) (meth := k0m0) (c := k0c0) (by decide +kernel) rfl rfl rfl (by decide +kernel)
set_option maxRecDepth 65536 in
theorem w_c4 : (Jvm.Cond.code ({ cls := "java/lang/StringUTF16", name := "compress", desc := "([CII)[B" } : Jvm.MethodName) jdk_52_method_16_code (6 : Nat) (Option.some (Jvm.ClassFile.FieldType.array Jvm.ClassFile.FieldType.byte))).before args0 about1 = true := code_word (m := ⟨8, 2⟩) (meth := k8m2) (c := k8c2) (by decide +kernel) rfl rfl rfl (by decide +kernel)
set_option maxRecDepth 65536 in
theorem w_c5 : (Jvm.Cond.code ({ cls := "java/lang/StringUTF16", name := "compress", desc := "([CI[BII)I" } : Jvm.MethodName) jdk_52_method_21_code (7 : Nat) (Option.some Jvm.ClassFile.FieldType.int)).before args0 about1 = true := code_word (m := ⟨8, 3⟩) (meth := k8m3) (c := k8c3) (by decide +kernel) rfl rfl rfl (by decide +kernel)
set_option maxRecDepth 65536 in
theorem w_c6 : (Jvm.Cond.code ({ cls := "java/lang/StringUTF16", name := "coderFromArrayLen", desc := "([BI)B" } : Jvm.MethodName) jdk_52_method_15_code (2 : Nat) (Option.some Jvm.ClassFile.FieldType.byte)).before args0 about1 = true := code_word (m := ⟨8, 1⟩) (meth := k8m1) (c := k8c1) (by decide +kernel) rfl rfl rfl (by decide +kernel)
set_option maxRecDepth 65536 in
theorem w_c7 : (Jvm.Cond.code ({ cls := "com/example/subsumer/subsumer/Role", name := "property", desc := "(Ljava/lang/String;I)Lcom/example/subsumer/subsumer/Role;" } : Jvm.MethodName) prog_21_method_2_code (4 : Nat) (Option.some (Jvm.ClassFile.FieldType.object "com/example/subsumer/subsumer/Role"))).before args0 about1 = true := code_word (m := ⟨9, 1⟩) (meth := k9m1) (c := k9c1) (by decide +kernel) rfl rfl rfl (by decide +kernel)
set_option maxRecDepth 65536 in
theorem w_c8 : (Jvm.Cond.code ({ cls := "com/example/subsumer/subsumer/Role", name := "<init>", desc := "(Ljava/lang/String;IZ)V" } : Jvm.MethodName) prog_21_method_1_code (4 : Nat) (Option.none : Option Jvm.ClassFile.FieldType)).before args0 about1 = true := code_word (m := ⟨9, 0⟩) (meth := k9m0) (c := k9c0) (by decide +kernel) rfl rfl rfl (by decide +kernel)
set_option maxRecDepth 65536 in
theorem w_c9 : (Jvm.Cond.code ({ cls := "com/example/subsumer/subsumer/Role", name := "inverse", desc := "()Lcom/example/subsumer/subsumer/Role;" } : Jvm.MethodName) prog_21_method_5_code (1 : Nat) (Option.some (Jvm.ClassFile.FieldType.object "com/example/subsumer/subsumer/Role"))).before args0 about1 = true := code_word (m := ⟨9, 4⟩) (meth := k9m4) (c := k9c4) (by decide +kernel) rfl rfl rfl (by decide +kernel)
set_option maxRecDepth 65536 in
theorem w_c10 : (Jvm.Cond.code ({ cls := "com/example/subsumer/subsumer/Role", name := "iri", desc := "()Ljava/lang/String;" } : Jvm.MethodName) prog_21_method_3_code (1 : Nat) (Option.some (Jvm.ClassFile.FieldType.object "java/lang/String"))).before args0 about1 = true := code_word (m := ⟨9, 2⟩) (meth := k9m2) (c := k9c2) (by decide +kernel) rfl rfl rfl (by decide +kernel)
set_option maxRecDepth 65536 in
theorem w_c11 : (Jvm.Cond.code ({ cls := "java/lang/String", name := "equals", desc := "(Ljava/lang/Object;)Z" } : Jvm.MethodName) jdk_42_method_66_code (3 : Nat) (Option.some Jvm.ClassFile.FieldType.boolean)).before args0 about1 = true := code_word (m := ⟨7, 2⟩) (meth := k7m2) (c := k7c2) (by decide +kernel) rfl rfl rfl (by decide +kernel)
set_option maxRecDepth 65536 in
theorem w_c12 : (Jvm.Cond.code ({ cls := "com/example/subsumer/subsumer/Role", name := "isInverse", desc := "()Z" } : Jvm.MethodName) prog_21_method_4_code (1 : Nat) (Option.some Jvm.ClassFile.FieldType.boolean)).before args0 about1 = true := code_word (m := ⟨9, 3⟩) (meth := k9m3) (c := k9c3) (by decide +kernel) rfl rfl rfl (by decide +kernel)
set_option maxRecDepth 65536 in
theorem w_c13 : (Jvm.Cond.code ({ cls := "com/example/subsumer/subsumer/Role", name := "hashCode", desc := "()I" } : Jvm.MethodName) prog_21_method_6_code (1 : Nat) (Option.some Jvm.ClassFile.FieldType.int)).before args0 about1 = true := code_word (m := ⟨9, 5⟩) (meth := k9m5) (c := k9c5) (by decide +kernel) rfl rfl rfl (by decide +kernel)
set_option maxRecDepth 65536 in
theorem w_c14 : (Jvm.Cond.code ({ cls := "java/lang/String", name := "valueOf", desc := "(C)Ljava/lang/String;" } : Jvm.MethodName) jdk_42_method_139_code (1 : Nat) (Option.some (Jvm.ClassFile.FieldType.object "java/lang/String"))).before args0 about1 = true := code_word (m := ⟨7, 3⟩) (meth := k7m3) (c := k7c3) (by decide +kernel) rfl rfl rfl (by decide +kernel)
set_option maxRecDepth 65536 in
theorem w_c15 : (Jvm.Cond.code ({ cls := "java/lang/StringLatin1", name := "canEncode", desc := "(C)Z" } : Jvm.MethodName) jdk_43_method_3_code (1 : Nat) (Option.some Jvm.ClassFile.FieldType.boolean)).before args0 about1 = true := code_word (m := ⟨10, 1⟩) (meth := k10m1) (c := k10c1) (by decide +kernel) rfl rfl rfl (by decide +kernel)
set_option maxRecDepth 65536 in
theorem w_c16 : (Jvm.Cond.code ({ cls := "java/lang/StringLatin1", name := "toBytes", desc := "(C)[B" } : Jvm.MethodName) jdk_43_method_46_code (1 : Nat) (Option.some (Jvm.ClassFile.FieldType.array Jvm.ClassFile.FieldType.byte))).before args0 about1 = true := code_word (m := ⟨10, 2⟩) (meth := k10m2) (c := k10c2) (by decide +kernel) rfl rfl rfl (by decide +kernel)
set_option maxRecDepth 65536 in
theorem w_c17 : (Jvm.Cond.code ({ cls := "java/lang/String", name := "<init>", desc := "([BB)V" } : Jvm.MethodName) jdk_42_method_151_code (3 : Nat) (Option.none : Option Jvm.ClassFile.FieldType)).before args0 about1 = true := code_word (m := ⟨7, 5⟩) (meth := k7m5) (c := k7c5) (by decide +kernel) rfl rfl rfl (by decide +kernel)
def codes1 : List Jvm.Cond := [Jvm.Cond.code x code maxLocals ret, Jvm.Cond.code ({ cls := "java/lang/String", name := "<init>", desc := "([C)V" } : Jvm.MethodName) jdk_42_method_3_code (2 : Nat) (Option.none : Option Jvm.ClassFile.FieldType), Jvm.Cond.code ({ cls := "java/lang/String", name := "<init>", desc := "([CIILjava/lang/Void;)V" } : Jvm.MethodName) jdk_42_method_149_code (6 : Nat) (Option.none : Option Jvm.ClassFile.FieldType), Jvm.Cond.code ({ cls := "java/lang/Object", name := "<init>", desc := "()V" } : Jvm.MethodName) object_method_1_code (1 : Nat) (Option.none : Option Jvm.ClassFile.FieldType), Jvm.Cond.code ({ cls := "java/lang/StringUTF16", name := "compress", desc := "([CII)[B" } : Jvm.MethodName) jdk_52_method_16_code (6 : Nat) (Option.some (Jvm.ClassFile.FieldType.array Jvm.ClassFile.FieldType.byte)), Jvm.Cond.code ({ cls := "java/lang/StringUTF16", name := "compress", desc := "([CI[BII)I" } : Jvm.MethodName) jdk_52_method_21_code (7 : Nat) (Option.some Jvm.ClassFile.FieldType.int), Jvm.Cond.code ({ cls := "java/lang/StringUTF16", name := "coderFromArrayLen", desc := "([BI)B" } : Jvm.MethodName) jdk_52_method_15_code (2 : Nat) (Option.some Jvm.ClassFile.FieldType.byte), Jvm.Cond.code ({ cls := "com/example/subsumer/subsumer/Role", name := "property", desc := "(Ljava/lang/String;I)Lcom/example/subsumer/subsumer/Role;" } : Jvm.MethodName) prog_21_method_2_code (4 : Nat) (Option.some (Jvm.ClassFile.FieldType.object "com/example/subsumer/subsumer/Role")), Jvm.Cond.code ({ cls := "com/example/subsumer/subsumer/Role", name := "<init>", desc := "(Ljava/lang/String;IZ)V" } : Jvm.MethodName) prog_21_method_1_code (4 : Nat) (Option.none : Option Jvm.ClassFile.FieldType), Jvm.Cond.code ({ cls := "com/example/subsumer/subsumer/Role", name := "inverse", desc := "()Lcom/example/subsumer/subsumer/Role;" } : Jvm.MethodName) prog_21_method_5_code (1 : Nat) (Option.some (Jvm.ClassFile.FieldType.object "com/example/subsumer/subsumer/Role")), Jvm.Cond.code ({ cls := "com/example/subsumer/subsumer/Role", name := "iri", desc := "()Ljava/lang/String;" } : Jvm.MethodName) prog_21_method_3_code (1 : Nat) (Option.some (Jvm.ClassFile.FieldType.object "java/lang/String")), Jvm.Cond.code ({ cls := "java/lang/String", name := "equals", desc := "(Ljava/lang/Object;)Z" } : Jvm.MethodName) jdk_42_method_66_code (3 : Nat) (Option.some Jvm.ClassFile.FieldType.boolean), Jvm.Cond.code ({ cls := "com/example/subsumer/subsumer/Role", name := "isInverse", desc := "()Z" } : Jvm.MethodName) prog_21_method_4_code (1 : Nat) (Option.some Jvm.ClassFile.FieldType.boolean), Jvm.Cond.code ({ cls := "com/example/subsumer/subsumer/Role", name := "hashCode", desc := "()I" } : Jvm.MethodName) prog_21_method_6_code (1 : Nat) (Option.some Jvm.ClassFile.FieldType.int), Jvm.Cond.code ({ cls := "java/lang/String", name := "valueOf", desc := "(C)Ljava/lang/String;" } : Jvm.MethodName) jdk_42_method_139_code (1 : Nat) (Option.some (Jvm.ClassFile.FieldType.object "java/lang/String")), Jvm.Cond.code ({ cls := "java/lang/StringLatin1", name := "canEncode", desc := "(C)Z" } : Jvm.MethodName) jdk_43_method_3_code (1 : Nat) (Option.some Jvm.ClassFile.FieldType.boolean), Jvm.Cond.code ({ cls := "java/lang/StringLatin1", name := "toBytes", desc := "(C)[B" } : Jvm.MethodName) jdk_43_method_46_code (1 : Nat) (Option.some (Jvm.ClassFile.FieldType.array Jvm.ClassFile.FieldType.byte)), Jvm.Cond.code ({ cls := "java/lang/String", name := "<init>", desc := "([BB)V" } : Jvm.MethodName) jdk_42_method_151_code (3 : Nat) (Option.none : Option Jvm.ClassFile.FieldType)]
set_option maxRecDepth 65536 in
theorem codes_eq : words1.filter isCode = codes1 := rfl
theorem w_codes : ∀ c ∈ words1.filter isCode, c.before args0 about1 = true := by
  rw [codes_eq]
  intro c hc
  simp only [codes1, List.mem_cons, List.not_mem_nil, or_false] at hc
  rcases hc with rfl | rfl | rfl | rfl | rfl | rfl | rfl | rfl | rfl | rfl | rfl | rfl | rfl | rfl | rfl | rfl | rfl | rfl
  · exact w_c0
  · exact w_c1
  · exact w_c2
  · exact w_c3
  · exact w_c4
  · exact w_c5
  · exact w_c6
  · exact w_c7
  · exact w_c8
  · exact w_c9
  · exact w_c10
  · exact w_c11
  · exact w_c12
  · exact w_c13
  · exact w_c14
  · exact w_c15
  · exact w_c16
  · exact w_c17
set_option maxRecDepth 65536 in
theorem w_t1 : (words1.take 24).all (fun c => isCode c || c.before args0 about1) = true := by decide +kernel
set_option maxRecDepth 65536 in
theorem w_t2 : ((words1.drop 24).take 24).all (fun c => isCode c || c.before args0 about1) = true := by decide +kernel
set_option maxRecDepth 65536 in
theorem w_t3 : (((words1.drop 24).drop 24).take 24).all (fun c => isCode c || c.before args0 about1) = true := by decide +kernel
set_option maxRecDepth 65536 in
theorem w_t4 : (((words1.drop 24).drop 24).drop 24).all (fun c => isCode c || c.before args0 about1) = true := by decide +kernel
theorem w_tables : (allAtoms (Jvm.Cond.code x code maxLocals ret :: tables_1)).before args0 about1 = true := by
  rw [allAtoms_all]
  show words1.all (fun c => c.before args0 about1) = true
  refine all_split ?_ w_codes
  rw [← List.take_append_drop 24 words1, List.all_append, w_t1, ← List.take_append_drop 24 (words1.drop 24), List.all_append, w_t2, ← List.take_append_drop 24 ((words1.drop 24).drop 24), List.all_append, w_t3, w_t4]
  rfl
set_option maxRecDepth 65536 in
theorem w_rest : rest_1_c.before args0 about1 = true := by decide +kernel
set_option maxRecDepth 65536 in
theorem w_case : (Jvm.Cond.and given_1 narrow_1).before args0 about1 = true := by decide +kernel
set_option maxRecDepth 65536 in
theorem w_consts : constsHeld consts_1 about1 := Jvm.Lit.constsHeldB_iff.mp (by decide +kernel)
theorem w_applies : (headSpec (Jvm.Cond.code x code maxLocals ret :: tables_1) room_1).applies x e0.platform about1 = true :=
  (Spec.applies_iff w_frames).mpr ⟨w_running, w_runnable, w_alone, w_named, w_hears, w_ripe, w_room, w_tables⟩
theorem atStart : AtStart classFile x code maxLocals ret World_1 tables_1 room_1 Calls_1 rest_1 Pre_1 launch0 p0 e0 about1 theMethod args0 below0 :=
  ⟨lists_1, trivial, launch0.admits_env _ _ _, launch0.least_env, fairChoices_fair.cas, fairChoices_fair.clock, w_frames, w_args, w_heap, w_applies, ⟨w_consts, trivial⟩, w_rest, w_case⟩
end start1
theorem witness_1 : WitnessClaimed_1 := ⟨start1.p0, start1.e0, start1.about1, start1.theMethod, start1.args0, start1.below0, start1.atStart⟩
end Jvm.Pilot.@@N@@
