import JvmDerived
import JvmDerived.Pilot.@@N@@Statement
import JvmDerived.Pilot.@@N@@Code
set_option linter.unusedVariables false
set_option linter.unusedSimpArgs false
namespace Jvm.RoadKit
open Sem ClassFile Op Lib Jvm.Stand Jvm.Free Jvm.LawKit
section New
variable {p : Program} {l : Launch} {e : Env} {R : Room} {s : State} {m : MethodId} {args : Array Value} {below : List Frame} {meth : Method} {c : Code} {T : State} {locs : List Loc} {cells slots : Nat}
theorem retI (X : Stand p l e R s m args below meth c T locs cells slots) (hx : p.tables.exec = Jvm.exec) {pc : Nat} {Ls : Array Slot} {z : Int32} {rest : List Value} (hret : meth.sig.returnType = some .int) (hd : decode c.code pc = .ok (.ireturn, 1)) {fs : List Frame}
    (hl : ∀ (f : JFrame) (acts : List Action), f.method = m → f.locked = none → f.entered = [] → (doReturn e (T.setTop f) acts (some (.int z))).1 = T.setFrames fs) : Steps p.tables e below (T.setTop (mkF m pc Ls (.int z :: rest))) (T.setFrames fs) := by
  have hm' : T.vm.method? m = some meth := X.method'
  have hn : narrow .int (.int z) = .int z := rfl
  show Steps p.tables e below (T.setTop { method := m, pc := pc, locals := Ls, stack := _ :: rest, locked := none }) _
  jvm_step X.here [X.here.top, hx, hd, hm', hret, hn]
  first | (intro acts; rw [hl _ acts rfl rfl rfl]) | rw [hl _ _ rfl rfl rfl]
  exact Steps.refl _
end New
end Jvm.RoadKit
/- laws to paste: Road.backV, Road.lenW, Road.chN, Road.codOf (cut by pick.py; bodies as the Statement names them) -/
namespace Jvm.Pilot.@@N@@
namespace StrChars
open Jvm Sem ClassFile Op Lib Jvm.Stand Jvm.Free.XT Jvm.Free.ALB Jvm.Free.JM Jvm.Free
open Jvm.Lib.Cold (StaticIs)
/-- a char array whose places are chars -/
def Ch (a : Addr) (A : Cell) (U : State) : Prop := Arr .char a A U ∧ Typed .char A
theorem Ch.mv {a : Addr} {A : Cell} {U U' : State} (h : Ch a A U) (hal : U.vm.Alike U'.vm) (hh : U'.heap = U.heap) : Ch a A U' := ⟨h.1.mv hal hh, h.2⟩
theorem Ch.keep {a : Addr} {A : Cell} {U U' : State} (h : Ch a A U) (hal : U.vm.Alike U'.vm) (hk : U'.heap[a]? = some A) : Ch a A U' := ⟨h.1.keep hal hk, h.2⟩
/-- what place i of a char[]'s cell holds -/
def cv (A : Cell) (i : Nat) : Int32 := match A.slots[i]? with | some (.int x) => x | _ => 0
theorem Ch.get {a : Addr} {A : Cell} {U : State} (h : Ch a A U) {i : Nat} (hi : i < A.slots.size) : A.slots[i]? = some (.int (cv A i)) := by
  have e := Array.getElem?_eq_getElem hi
  have f := h.2 i _ e
  unfold cv; rw [e]
  generalize A.slots[i] = v at f
  cases v <;> simp [fits] at f ⊢
/-- the byte that i2b leaves of a char -/
def lo8 (x : Int32) : Int32 := x.toInt8.toInt32
theorem fits_lo8 (y : Int32) : fits .byte (.int (lo8 y)) = true := by
  have h1 := y.toInt8.le_toInt
  have h2 := y.toInt8.toInt_lt
  simp only [lo8, fits, Bool.and_eq_true, decide_eq_true_eq, Int32.le_iff_toInt_le, Int8.toInt_toInt32, show (-128 : Int32).toInt = -128 from by decide, show (127 : Int32).toInt = 127 from by decide]
  omega
/-- A' is A but that each place j of lo .. hi - 1 holds f j -/
def Laid (A A' : Cell) (lo hi : Nat) (f : Nat → Value) : Prop := A'.cls = A.cls ∧ A'.vm = A.vm ∧ A'.slots.size = A.slots.size ∧ ∀ i, A'.slots[i]? = if lo ≤ i ∧ i < hi then some (f i) else A.slots[i]?
theorem Laid.zero (A : Cell) (lo : Nat) (f : Nat → Value) : Laid A A lo (lo + 0) f := ⟨rfl, rfl, rfl, fun i => by rw [if_neg (by omega)]⟩
theorem Laid.step {A Ak : Cell} {lo k : Nat} {f : Nat → Value} {v : Value} (h : Laid A Ak lo k f) (hlo : lo ≤ k) (hk : k < Ak.slots.size) (hv : v = f k) : Laid A (Ak.setSlot k v) lo (k + 1) f := by
  refine ⟨h.1, h.2.1, by simpa [Cell.setSlot] using h.2.2.1, fun i => ?_⟩
  by_cases e : k = i
  · subst e; rw [Cell.slots_setSlot_self v hk, if_pos (by omega), hv]
  · rw [Cell.slots_setSlot_ne v e, h.2.2.2 i]
    by_cases q : lo ≤ i ∧ i < k
    · rw [if_pos q, if_pos (by omega)]
    · rw [if_neg q, if_neg (by omega)]
def U16 : String := "java/lang/StringUTF16"
namespace Cmp5
def yN : MethodName := ⟨"java/lang/StringUTF16", "compress", "([CI[BII)I"⟩
abbrev yB : ByteArray := jdk_52_method_21_code
theorem d0 : decode yB 0 = .ok (.iconst 0, 1) := by decide +kernel
theorem d1 : decode yB 1 = .ok (.istore 5, 2) := by decide +kernel
theorem d3 : decode yB 3 = .ok (.iload 5, 2) := by decide +kernel
theorem d5 : decode yB 5 = .ok (.iload 4, 2) := by decide +kernel
theorem d7 : decode yB 7 = .ok (.if_icmp (.ge) 37, 3) := by decide +kernel
theorem d10 : decode yB 10 = .ok (.aload_n 0, 1) := by decide +kernel
theorem d11 : decode yB 11 = .ok (.iload_n 1, 1) := by decide +kernel
theorem d12 : decode yB 12 = .ok (.caload, 1) := by decide +kernel
theorem d13 : decode yB 13 = .ok (.istore 6, 2) := by decide +kernel
theorem d15 : decode yB 15 = .ok (.iload 6, 2) := by decide +kernel
theorem d17 : decode yB 17 = .ok (.sipush 255, 3) := by decide +kernel
theorem d20 : decode yB 20 = .ok (.if_icmp (.le) 6, 3) := by decide +kernel
theorem d26 : decode yB 26 = .ok (.aload_n 2, 1) := by decide +kernel
theorem d27 : decode yB 27 = .ok (.iload_n 3, 1) := by decide +kernel
theorem d28 : decode yB 28 = .ok (.iload 6, 2) := by decide +kernel
theorem d30 : decode yB 30 = .ok (.i2b, 1) := by decide +kernel
theorem d31 : decode yB 31 = .ok (.bastore, 1) := by decide +kernel
theorem d32 : decode yB 32 = .ok (.iinc 1 1, 3) := by decide +kernel
theorem d35 : decode yB 35 = .ok (.iinc 3 1, 3) := by decide +kernel
theorem d38 : decode yB 38 = .ok (.iinc 5 1, 3) := by decide +kernel
theorem d41 : decode yB 41 = .ok (.goto (-38), 3) := by decide +kernel
theorem d44 : decode yB 44 = .ok (.iload 4, 2) := by decide +kernel
theorem d46 : decode yB 46 = .ok (.ireturn, 1) := by decide +kernel
def site : List Cond := []
def tab : Cond := tabOf yN yB 7 (some .int) site
def P (b : Addr) (A : Cell) (d : Addr) (B : Cell) (o q len : Nat) (args : Array Value) (s : State) : Prop := args = #[.ref b, .int (Int32.ofNat o), .ref d, .int (Int32.ofNat q), .int (Int32.ofNat len)] ∧ Ch b A s ∧ Arr .byte d B s ∧ b ≠ d ∧ o + len ≤ A.slots.size ∧ q + len ≤ B.slots.size ∧ ∀ i, i < len → ¬ 255 < cv A (o + i)
def E (b : Addr) (A : Cell) (d : Addr) (B : Cell) (o q len : Nat) (r : Option Value) (s u : State) : Prop := r = some (.int (Int32.ofNat len)) ∧ ∃ B', Put d B' s u ∧ Laid B B' q (q + len) (fun j => Value.int (lo8 (cv A (o + (j - q)))))
/-- no char of the range above 255: len; the places written hold each char's low byte -/
theorem law (l : Launch) (b : Addr) (A : Cell) (d : Addr) (B : Cell) (o q len : Nat) : Law l yN 5 5 0 0 yB 7 (some .int) site (P b A d B o q len) (E b A d B o q len) (copyLocs d q len) 0 0 := by
  refine Law.of_walk (plainFor_of_name (by decide +kernel)) (by decide +kernel) (by decide +kernel) (by decide) (fun _ _ h => by rw [h.1]; rfl) (fun _ U U' hal hh h => ⟨h.1, h.2.1.mv hal hh, h.2.2.1.mv hal hh, h.2.2.2⟩) (fun r U U' V V' h1 hal h2 h => ⟨h.1, h.2.elim fun B' q => ⟨B', q.1.mv h1 h2, q.2⟩⟩) ?_
  intro p e s m args below meth c s₁ X0 hexec hbytes hml hret hlk hnm hown hh0 W hP
  obtain ⟨rfl, hA, hB, hne, l1, l2, hp⟩ := hP
  have c1 : Steps p.tables e below (s₁.setTop (entryFrame m #[.ref b, .int (Int32.ofNat o), .ref d, .int (Int32.ofNat q), .int (Int32.ofNat len)] 7)) (s₁.setTop (mkF m 0 #[.val (.ref b), .val (.int (Int32.ofNat o)), .val (.ref d), .val (.int (Int32.ofNat q)), .val (.int (Int32.ofNat len)), .unset, .unset] [])) := entry rfl
  have hA0 := hA.1.mv X0.warmed.alike hh0
  have hB0 := hB.mv X0.warmed.alike hh0
  have a31 := hA.1.2.2.2
  have c2 : Steps p.tables e below (s₁.setTop (entryFrame m #[.ref b, .int (Int32.ofNat o), .ref d, .int (Int32.ofNat q), .int (Int32.ofNat len)] 7)) (s₁.setTop (mkF m 3 #[.val (.ref b), .val (.int (Int32.ofNat o)), .val (.ref d), .val (.int (Int32.ofNat q)), .val (.int (Int32.ofNat len)), .val (.int 0), .unset] [])) := c1.trans (by
    refine iconstV X0.here hexec rfl 0 (hb hbytes d0) (by decide) ?_
    refine XS.istore X0.here hexec rfl (hb hbytes d1) rfl rfl ?_
    exact Steps.refl _)
  have loop : ∀ (r i : Nat), i + r = len → ∀ (z : Slot), (z = .unset ∨ ∃ w, z = .val w ∧ w.category = 1) → ∀ (Tl : State) (Bk : Cell), Stand p l e { frames := 0, locals := 0, cells := 0, slots := 0 } s m #[.ref b, .int (Int32.ofNat o), .ref d, .int (Int32.ofNat q), .int (Int32.ofNat len)] below meth c Tl ([] ++ copyLocs d q i) 0 0 → Put d Bk s₁ Tl → Laid B Bk q (q + i) (fun j => Value.int (lo8 (cv A (o + (j - q))))) →
      Steps p.tables e below (s₁.setTop (entryFrame m #[.ref b, .int (Int32.ofNat o), .ref d, .int (Int32.ofNat q), .int (Int32.ofNat len)] 7)) (Tl.setTop (mkF m 3 #[.val (.ref b), .val (.int (Int32.ofNat (o + i))), .val (.ref d), .val (.int (Int32.ofNat (q + i))), .val (.int (Int32.ofNat len)), .val (.int (Int32.ofNat i)), z] [])) → ∃ (T' : State) (B' : Cell) (z' : Slot), Stand p l e { frames := 0, locals := 0, cells := 0, slots := 0 } s m #[.ref b, .int (Int32.ofNat o), .ref d, .int (Int32.ofNat q), .int (Int32.ofNat len)] below meth c T' ([] ++ copyLocs d q len) 0 0 ∧ Put d B' s₁ T' ∧ Laid B B' q (q + len) (fun j => Value.int (lo8 (cv A (o + (j - q))))) ∧
      Steps p.tables e below (s₁.setTop (entryFrame m #[.ref b, .int (Int32.ofNat o), .ref d, .int (Int32.ofNat q), .int (Int32.ofNat len)] 7)) (T'.setTop (mkF m 3 #[.val (.ref b), .val (.int (Int32.ofNat (o + len))), .val (.ref d), .val (.int (Int32.ofNat (q + len))), .val (.int (Int32.ofNat len)), .val (.int (Int32.ofNat len)), z'] [])) := by
    intro r
    induction r with
    | zero =>
      intro i hi z hz Tl Bk Xl pl fl cl
      have hil : i = len := by omega
      rw [hil] at Xl fl cl
      exact ⟨Tl, Bk, z, Xl, pl, fl, cl⟩
    | succ r ih =>
      intro i hi z hz Tl Bk Xl pl fl cl
      have all := X0.warmed.alike.symm.trans Xl.warmed.alike
      have hAl := hA0.keep all (pl.other hne hA0.1)
      have hBk := hB0.like all pl.1 fl.1 fl.2.1 fl.2.2.1
      have hlt : q + i < Bk.slots.size := by rw [fl.2.2.1]; omega
      have c3 : Steps p.tables e below (s₁.setTop (entryFrame m #[.ref b, .int (Int32.ofNat o), .ref d, .int (Int32.ofNat q), .int (Int32.ofNat len)] 7)) (Tl.setTop (mkF m 12 #[.val (.ref b), .val (.int (Int32.ofNat (o + i))), .val (.ref d), .val (.int (Int32.ofNat (q + i))), .val (.int (Int32.ofNat len)), .val (.int (Int32.ofNat i)), z] [.int (Int32.ofNat (o + i)), .ref b])) := cl.trans (by
        refine XS.iload Xl.here hexec rfl (hb hbytes d3) rfl ?_
        refine XS.iload Xl.here hexec rfl (hb hbytes d5) rfl ?_
        refine XS.icmpNo Xl.here hexec rfl (hb hbytes d7) rfl (ii_ge_f (lt32 (by omega) (by omega))) ?_
        refine XS.aloadN Xl.here hexec rfl (hb hbytes d10) rfl rfl ?_
        refine XS.iloadN Xl.here hexec rfl (hb hbytes d11) rfl ?_
        exact Steps.refl _)
      have c4 : Steps p.tables e below (s₁.setTop (entryFrame m #[.ref b, .int (Int32.ofNat o), .ref d, .int (Int32.ofNat q), .int (Int32.ofNat len)] 7)) (Tl.setTop (mkF m 13 #[.val (.ref b), .val (.int (Int32.ofNat (o + i))), .val (.ref d), .val (.int (Int32.ofNat (q + i))), .val (.int (Int32.ofNat len)), .val (.int (Int32.ofNat i)), z] [.int (cv A (o + i))])) := c3.trans (by
        refine Xl.aget hexec hAl rfl (hA.get (i := o + i) (by omega)) rfl rfl (hb hbytes d12) ?_
        exact Steps.refl _)
      have c5 : Steps p.tables e below (s₁.setTop (entryFrame m #[.ref b, .int (Int32.ofNat o), .ref d, .int (Int32.ofNat q), .int (Int32.ofNat len)] 7)) (Tl.setTop (mkF m 15 #[.val (.ref b), .val (.int (Int32.ofNat (o + i))), .val (.ref d), .val (.int (Int32.ofNat (q + i))), .val (.int (Int32.ofNat len)), .val (.int (Int32.ofNat i)), .val (.int (cv A (o + i)))] [])) := c4.trans (by
        refine XS.istoreS Xl.here hexec rfl (hb hbytes d13) rfl rfl hz ?_
        exact Steps.refl _)
      have c6 : Steps p.tables e below (s₁.setTop (entryFrame m #[.ref b, .int (Int32.ofNat o), .ref d, .int (Int32.ofNat q), .int (Int32.ofNat len)] 7)) (Tl.setTop (mkF m 31 #[.val (.ref b), .val (.int (Int32.ofNat (o + i))), .val (.ref d), .val (.int (Int32.ofNat (q + i))), .val (.int (Int32.ofNat len)), .val (.int (Int32.ofNat i)), .val (.int (cv A (o + i)))] [.int (lo8 (cv A (o + i))), .int (Int32.ofNat (q + i)), .ref d])) := c5.trans (by
        refine XS.iload Xl.here hexec rfl (hb hbytes d15) rfl ?_
        refine sipushV Xl.here hexec rfl 255 (hb hbytes d17) (by decide) ?_
        refine XS.icmpYes Xl.here hexec rfl (pc0 := 20) rfl (hb hbytes d20) rfl (ii_le_t (hp i (by omega))) (by decide) rfl ?_
        refine XS.aloadN Xl.here hexec rfl (hb hbytes d26) rfl rfl ?_
        refine XS.iloadN Xl.here hexec rfl (hb hbytes d27) rfl ?_
        refine XS.iload Xl.here hexec rfl (hb hbytes d28) rfl ?_
        refine i2b Xl.here hexec rfl (hb hbytes d30) rfl ?_
        exact Steps.refl _)
      obtain ⟨T7, X7, p7, st7⟩ := Xl.aput hexec hBk rfl hlt rfl (fits_lo8 (cv A (o + i))) (g := (mkF m 31 #[.val (.ref b), .val (.int (Int32.ofNat (o + i))), .val (.ref d), .val (.int (Int32.ofNat (q + i))), .val (.int (Int32.ofNat len)), .val (.int (Int32.ofNat i)), .val (.int (cv A (o + i)))] [.int (lo8 (cv A (o + i))), .int (Int32.ofNat (q + i)), .ref d])) rfl (rest := []) rfl (hb hbytes d31)
      have c8 : Steps p.tables e below (s₁.setTop (entryFrame m #[.ref b, .int (Int32.ofNat o), .ref d, .int (Int32.ofNat q), .int (Int32.ofNat len)] 7)) (T7.setTop (mkF m 32 #[.val (.ref b), .val (.int (Int32.ofNat (o + i))), .val (.ref d), .val (.int (Int32.ofNat (q + i))), .val (.int (Int32.ofNat len)), .val (.int (Int32.ofNat i)), .val (.int (cv A (o + i)))] [])) := c6.trans (st7 _ (Steps.refl _))
      have c9 : Steps p.tables e below (s₁.setTop (entryFrame m #[.ref b, .int (Int32.ofNat o), .ref d, .int (Int32.ofNat q), .int (Int32.ofNat len)] 7)) (T7.setTop (mkF m 3 #[.val (.ref b), .val (.int (Int32.ofNat (o + i) + 1)), .val (.ref d), .val (.int (Int32.ofNat (q + i) + 1)), .val (.int (Int32.ofNat len)), .val (.int (Int32.ofNat i + 1)), .val (.int (cv A (o + i)))] [])) := c8.trans (by
        refine iincV X7.here hexec rfl 1 (hb hbytes d32) (by decide) rfl rfl ?_
        refine iincV X7.here hexec rfl 1 (hb hbytes d35) (by decide) rfl rfl ?_
        refine iincV X7.here hexec rfl 1 (hb hbytes d38) (by decide) rfl rfl ?_
        refine XS.goto X7.here hexec rfl (pc0 := 41) rfl (hb hbytes d41) (by decide) rfl ?_
        exact Steps.refl _)
      have c10 : Steps p.tables e below (s₁.setTop (entryFrame m #[.ref b, .int (Int32.ofNat o), .ref d, .int (Int32.ofNat q), .int (Int32.ofNat len)] 7)) (T7.setTop (mkF m 3 #[.val (.ref b), .val (.int (Int32.ofNat (o + (i + 1)))), .val (.ref d), .val (.int (Int32.ofNat (q + (i + 1)))), .val (.int (Int32.ofNat len)), .val (.int (Int32.ofNat (i + 1))), .val (.int (cv A (o + i)))] [])) := by
        have := c9
        rw [succ32, succ32, succ32] at this
        exact this
      exact ih (i + 1) (by omega) _ (Or.inr ⟨_, rfl, rfl⟩) T7 _ (by rw [copyLocs_step, ← List.append_assoc]; exact X7) (pl.trans p7) (fl.step (by omega) hlt (by simp)) c10
  obtain ⟨T9, B9, z9, X9, p9, f9, g9⟩ := loop len 0 (by omega) .unset (Or.inl rfl) s₁ B (by simpa [copyLocs] using X0) ⟨hB0.1, fun _ _ => rfl, rfl⟩ (Laid.zero _ _ _) c2
  have c11 : Steps p.tables e below (s₁.setTop (entryFrame m #[.ref b, .int (Int32.ofNat o), .ref d, .int (Int32.ofNat q), .int (Int32.ofNat len)] 7)) (T9.setTop (mkF m 46 #[.val (.ref b), .val (.int (Int32.ofNat (o + len))), .val (.ref d), .val (.int (Int32.ofNat (q + len))), .val (.int (Int32.ofNat len)), .val (.int (Int32.ofNat len)), z9] [.int (Int32.ofNat len)])) := g9.trans (by
    refine XS.iload X9.here hexec rfl (hb hbytes d3) rfl ?_
    refine XS.iload X9.here hexec rfl (hb hbytes d5) rfl ?_
    refine XS.icmpYes X9.here hexec rfl (pc0 := 7) rfl (hb hbytes d7) rfl (ii_ge_t (nlt32 (by omega) (Nat.le_refl _))) (by decide) rfl ?_
    refine XS.iload X9.here hexec rfl (hb hbytes d44) rfl ?_
    exact Steps.refl _)
  exact ⟨T9, some (.int (Int32.ofNat len)), _, _, _, X9, by simp, rfl, rfl, (fun h => by cases h), ⟨rfl, B9, p9.from hh0, f9⟩, fun fs hl => c11.trans (X9.ireturnOut hexec hret rfl (Or.inl rfl) (hb hbytes d46) hl)⟩
end Cmp5
namespace Cmp3
def yN : MethodName := ⟨"java/lang/StringUTF16", "compress", "([CII)[B"⟩
abbrev yB : ByteArray := jdk_52_method_16_code
theorem d0 : decode yB 0 = .ok (.iload_n 2, 1) := by decide +kernel
theorem d1 : decode yB 1 = .ok (.newarray .byte, 2) := by decide +kernel
theorem d3 : decode yB 3 = .ok (.astore_n 3, 1) := by decide +kernel
theorem d4 : decode yB 4 = .ok (.aload_n 0, 1) := by decide +kernel
theorem d5 : decode yB 5 = .ok (.iload_n 1, 1) := by decide +kernel
theorem d6 : decode yB 6 = .ok (.aload_n 3, 1) := by decide +kernel
theorem d7 : decode yB 7 = .ok (.iconst 0, 1) := by decide +kernel
theorem d8 : decode yB 8 = .ok (.iload_n 2, 1) := by decide +kernel
theorem d9 : decode yB 9 = .ok (.invokestatic 115, 3) := by decide +kernel
theorem d12 : decode yB 12 = .ok (.istore 4, 2) := by decide +kernel
theorem d14 : decode yB 14 = .ok (.iload 4, 2) := by decide +kernel
theorem d16 : decode yB 16 = .ok (.iload_n 2, 1) := by decide +kernel
theorem d17 : decode yB 17 = .ok (.if_icmp (.eq) 40, 3) := by decide +kernel
theorem d57 : decode yB 57 = .ok (.aload_n 3, 1) := by decide +kernel
theorem d58 : decode yB 58 = .ok (.areturn, 1) := by decide +kernel
def site : List Cond := [.arrayClass .byte, Cmp5.tab] ++ staticW U16 115 Cmp5.yN
def tab : Cond := tabOf yN yB 6 (some (.array .byte)) site
def P (b : Addr) (A : Cell) (o len : Nat) (args : Array Value) (s : State) : Prop := args = #[.ref b, .int (Int32.ofNat o), .int (Int32.ofNat len)] ∧ Ch b A s ∧ o + len ≤ A.slots.size ∧ len ≤ 536870912 ∧ ∀ i, i < len → ¬ 255 < cv A (o + i)
def E (b : Addr) (A : Cell) (o len : Nat) (r : Option Value) (s u : State) : Prop := NewArr .byte "[B" len (fun j => .int (lo8 (cv A (o + j)))) r s u ∧ u.heap.size = s.heap.size + 1
/-- no char of the range above 255: a new byte[] of their low bytes -/
theorem law (l : Launch) (b : Addr) (A : Cell) (o len : Nat) : Law l yN 3 3 1 18 yB 6 (some (.array .byte)) site (P b A o len) (E b A o len) [] 1 len := by
  refine Law.of_walk (plainFor_of_name (by decide +kernel)) (by decide +kernel) (by decide +kernel) (by decide) (fun _ _ h => by rw [h.1]; rfl) (fun _ U U' hal hh h => ⟨h.1, h.2.1.mv hal hh, h.2.2⟩) (fun r U U' V V' h1 hal h2 h => ⟨NewArr.mv r U U' V V' h1 hal h2 h.1, by rw [h1, h2]; exact h.2⟩) ?_
  intro p e s m args below meth c s₁ X0 hexec hbytes hml hret hlk hnm hown hh0 W hP
  obtain ⟨rfl, hA, l1, l2, hp⟩ := hP
  have a31 := hA.1.2.2.2
  have c1 : Steps p.tables e below (s₁.setTop (entryFrame m #[.ref b, .int (Int32.ofNat o), .int (Int32.ofNat len)] 6)) (s₁.setTop (mkF m 0 #[.val (.ref b), .val (.int (Int32.ofNat o)), .val (.int (Int32.ofNat len)), .unset, .unset, .unset] [])) := entry rfl
  have c2 : Steps p.tables e below (s₁.setTop (entryFrame m #[.ref b, .int (Int32.ofNat o), .int (Int32.ofNat len)] 6)) (s₁.setTop (mkF m 1 #[.val (.ref b), .val (.int (Int32.ofNat o)), .val (.int (Int32.ofNat len)), .unset, .unset, .unset] [.int (Int32.ofNat len)])) := c1.trans (by
    refine XS.iloadN X0.here hexec rfl (hb hbytes d0) rfl ?_
    exact Steps.refl _)
  obtain ⟨T3, B3, X3, ba3, bs3, bv3, bh3, bf3, st3⟩ := X0.anew hexec (atype := .byte) (wk W (.arrayClass .byte)) rfl (by show len * 1 ≤ _; omega) (by omega) (g := (mkF m 1 #[.val (.ref b), .val (.int (Int32.ofNat o)), .val (.int (Int32.ofNat len)), .unset, .unset, .unset] [.int (Int32.ofNat len)])) rfl (hb hbytes d1) (rest := []) rfl (Nat.le_refl _) (by show 0 + len ≤ len; omega)
  rw [hh0] at ba3 st3
  have kp3 : XT.Kept s T3 := (XT.Kept.of_eq hh0).push bh3
  have hA3 := hA.keep X3.warmed.alike (kp3 _ _ hA.1.1)
  have hne : b ≠ s.heap.size := hA.1.ne
  have c4 : Steps p.tables e below (s₁.setTop (entryFrame m #[.ref b, .int (Int32.ofNat o), .int (Int32.ofNat len)] 6)) (T3.setTop (mkF m 3 #[.val (.ref b), .val (.int (Int32.ofNat o)), .val (.int (Int32.ofNat len)), .unset, .unset, .unset] [.ref s.heap.size])) := c2.trans (st3 _ (Steps.refl _))
  have c5 : Steps p.tables e below (s₁.setTop (entryFrame m #[.ref b, .int (Int32.ofNat o), .int (Int32.ofNat len)] 6)) (T3.setTop (mkF m 9 #[.val (.ref b), .val (.int (Int32.ofNat o)), .val (.int (Int32.ofNat len)), .val (.ref s.heap.size), .unset, .unset] [.int (Int32.ofNat len), .int 0, .ref s.heap.size, .int (Int32.ofNat o), .ref b])) := c4.trans (by
    refine XS.astoreN X3.here hexec rfl (hb hbytes d3) rfl rfl rfl ?_
    refine XS.aloadN X3.here hexec rfl (hb hbytes d4) rfl rfl ?_
    refine XS.iloadN X3.here hexec rfl (hb hbytes d5) rfl ?_
    refine XS.aloadN X3.here hexec rfl (hb hbytes d6) rfl rfl ?_
    refine iconstV X3.here hexec rfl 0 (hb hbytes d7) (by decide) ?_
    refine XS.iloadN X3.here hexec rfl (hb hbytes d8) rfl ?_
    exact Steps.refl _)
  obtain ⟨v6, T6, X6, E6, g6⟩ := X3.callS hexec (Cmp5.law l b A s.heap.size B3 o 0 len) hown (wks W (staticW U16 115 Cmp5.yN)) (wk W Cmp5.tab) (W := 0) (Nat.le_of_ble_eq_true rfl) (Nat.le_of_ble_eq_true rfl) (Nat.le_refl _) (by show 0 + len + 0 ≤ len; omega) (g := (mkF m 9 #[.val (.ref b), .val (.int (Int32.ofNat o)), .val (.int (Int32.ofNat len)), .val (.ref s.heap.size), .unset, .unset] [.int (Int32.ofNat len), .int (Int32.ofNat 0), .ref s.heap.size, .int (Int32.ofNat o), .ref b])) rfl (by rw [hml]; rfl) c5 (argsL := [.ref b, .int (Int32.ofNat o), .ref s.heap.size, .int (Int32.ofNat 0), .int (Int32.ofNat len)]) (rest := []) rfl rfl (by show 2 * 0 + 0 ≤ _; decide) (hb hbytes d9) (⟨rfl, hA3, ba3, hne, l1, by rw [bs3]; simp, hp⟩)
  obtain ⟨rfl, B6, p6, f6⟩ := E6
  have c7 : Steps p.tables e below (s₁.setTop (entryFrame m #[.ref b, .int (Int32.ofNat o), .int (Int32.ofNat len)] 6)) (T6.setTop (mkF m 12 #[.val (.ref b), .val (.int (Int32.ofNat o)), .val (.int (Int32.ofNat len)), .val (.ref s.heap.size), .unset, .unset] [.int (Int32.ofNat len)])) := g6
  have c8 : Steps p.tables e below (s₁.setTop (entryFrame m #[.ref b, .int (Int32.ofNat o), .int (Int32.ofNat len)] 6)) (T6.setTop (mkF m 58 #[.val (.ref b), .val (.int (Int32.ofNat o)), .val (.int (Int32.ofNat len)), .val (.ref s.heap.size), .val (.int (Int32.ofNat len)), .unset] [.ref s.heap.size])) := c7.trans (by
    refine XS.istore X6.here hexec rfl (hb hbytes d12) rfl rfl ?_
    refine XS.iload X6.here hexec rfl (hb hbytes d14) rfl ?_
    refine XS.iloadN X6.here hexec rfl (hb hbytes d16) rfl ?_
    refine XS.icmpYes X6.here hexec rfl (pc0 := 17) rfl (hb hbytes d17) rfl (ii_eq_t rfl) (by decide) rfl ?_
    refine XS.aloadN X6.here hexec rfl (hb hbytes d57) rfl rfl ?_
    exact Steps.refl _)
  have X8 := X6.wide (L' := []) (cells' := 1) (slots' := len) (fun x hx hlt => by
    simp only [List.nil_append, copyLocs, List.mem_map, List.mem_range] at hx
    obtain ⟨i, -, rfl⟩ := hx
    exact absurd hlt (Nat.lt_irrefl _)) (Nat.le_refl _) (by omega)
  exact ⟨T6, some (.ref s.heap.size), _, _, _, X8, rfl, rfl, rfl, (fun h => by cases h), ⟨⟨rfl, B6, ba3.like (X3.warmed.alike.symm.trans X6.warmed.alike) p6.1 f6.1 f6.2.1 f6.2.2.1, f6.2.1.trans bv3, by rw [X6.warmed.alike.findClass, f6.1]; exact bf3, by rw [f6.2.2.1, bs3]; simp, fun j hj => by rw [f6.2.2.2 j, if_pos (by omega)]; rfl, kp3.put p6 (Nat.le_refl _)⟩, by rw [p6.2.2, bh3, hh0]; simp⟩, fun fs hl => c8.trans (X8.areturnOut hexec rfl hret rfl (hb hbytes d58) hl)⟩
end Cmp3
namespace CodL
def yN : MethodName := ⟨"java/lang/StringUTF16", "coderFromArrayLen", "([BI)B"⟩
abbrev yB : ByteArray := jdk_52_method_15_code
theorem d0 : decode yB 0 = .ok (.iload_n 1, 1) := by decide +kernel
theorem d1 : decode yB 1 = .ok (.aload_n 0, 1) := by decide +kernel
theorem d2 : decode yB 2 = .ok (.arraylength, 1) := by decide +kernel
theorem d3 : decode yB 3 = .ok (.isub, 1) := by decide +kernel
theorem d4 : decode yB 4 = .ok (.bipush 31, 2) := by decide +kernel
theorem d6 : decode yB 6 = .ok (.iushr, 1) := by decide +kernel
theorem d7 : decode yB 7 = .ok (.i2b, 1) := by decide +kernel
theorem d8 : decode yB 8 = .ok (.ireturn, 1) := by decide +kernel
def site : List Cond := []
def tab : Cond := tabOf yN yB 2 (some .byte) site
def P (d : Addr) (B : Cell) (args : Array Value) (s : State) : Prop := args = #[.ref d, .int (Int32.ofNat B.slots.size)] ∧ Arr .byte d B s
def E (r : Option Value) (s u : State) : Prop := XT.PureE (some (.int 0)) r s u
/-- an array as long as the number of chars: LATIN1 -/
theorem law (l : Launch) (d : Addr) (B : Cell) : Law l yN 2 2 0 0 yB 2 (some .byte) site (P d B) E [] 0 0 := by
  refine Law.of_walk (plainFor_of_name (by decide +kernel)) (by decide +kernel) (by decide +kernel) (by decide) (fun _ _ h => by rw [h.1]; rfl) (fun _ U U' hal hh h => ⟨h.1, h.2.mv hal hh⟩) (fun r U U' V V' h1 hal h2 h => XT.PureE.mv r U U' V V' h1 hal h2 h) ?_
  intro p e s m args below meth c s₁ X0 hexec hbytes hml hret hlk hnm hown hh0 W hP
  obtain ⟨rfl, hB⟩ := hP
  have hB0 := hB.mv X0.warmed.alike hh0
  have c1 : Steps p.tables e below (s₁.setTop (entryFrame m #[.ref d, .int (Int32.ofNat B.slots.size)] 2)) (s₁.setTop (mkF m 0 #[.val (.ref d), .val (.int (Int32.ofNat B.slots.size))] [])) := entry rfl
  have c2 : Steps p.tables e below (s₁.setTop (entryFrame m #[.ref d, .int (Int32.ofNat B.slots.size)] 2)) (s₁.setTop (mkF m 2 #[.val (.ref d), .val (.int (Int32.ofNat B.slots.size))] [.ref d, .int (Int32.ofNat B.slots.size)])) := c1.trans (by
    refine XS.iloadN X0.here hexec rfl (hb hbytes d0) rfl ?_
    refine XS.aloadN X0.here hexec rfl (hb hbytes d1) rfl rfl ?_
    exact Steps.refl _)
  have c3 : Steps p.tables e below (s₁.setTop (entryFrame m #[.ref d, .int (Int32.ofNat B.slots.size)] 2)) (s₁.setTop (mkF m 8 #[.val (.ref d), .val (.int (Int32.ofNat B.slots.size))] [.int (lo8 (ushr (Int32.ofNat B.slots.size - Int32.ofNat B.slots.size) 31))])) := c2.trans (by
    refine X0.alen hexec hB0 rfl rfl (hb hbytes d2) ?_
    refine XS.isub X0.here hexec rfl (hb hbytes d3) rfl ?_
    refine bipushV X0.here hexec rfl 31 (hb hbytes d4) (by decide) ?_
    refine iushr X0.here hexec rfl (hb hbytes d6) rfl ?_
    refine i2b X0.here hexec rfl (hb hbytes d7) rfl ?_
    exact Steps.refl _)
  have e0 : lo8 (ushr (Int32.ofNat B.slots.size - Int32.ofNat B.slots.size) 31) = 0 := by rw [Int32.sub_self]; decide
  rw [e0] at c3
  exact ⟨s₁, some (.int 0), _, _, _, X0, rfl, rfl, rfl, (fun h => by cases h), ⟨rfl, hh0⟩, fun fs hl => c3.trans (X0.ireturnOut hexec hret rfl (Or.inr (Or.inr (Or.inl rfl))) (hb hbytes d8) hl)⟩
end CodL
/-- the String at a is Latin-1 over a new byte[] (the heap's one new cell): the low bytes of the len chars of A from o on; every cell but a is kept -/
def Got (a : Addr) (D : Cell) (fV fC : Field) (A : Cell) (o len : Nat) (r : Option Value) (s u : State) : Prop := r = none ∧ ∃ D' V : Cell, Blank "java/lang/String" a D' u ∧ Same D D' [fV.slot, fC.slot] ∧ D'.slots[fV.slot]? = some (.ref s.heap.size) ∧ D'.slots[fC.slot]? = some (.int 0) ∧ Arr .byte s.heap.size V u ∧ V.vm = .none ∧ u.vm.findClass "[B" = some V.cls ∧ V.slots.size = len ∧ (∀ j, j < len → V.slots[j]? = some (.int (lo8 (cv A (o + j))))) ∧ (∀ (y : Addr) (c : Cell), y ≠ a → s.heap[y]? = some c → u.heap[y]? = some c) ∧ u.heap.size = s.heap.size + 1
theorem Got.mv {a : Addr} {D A : Cell} {fV fC : Field} {o len : Nat} : ∀ r (U U' V V' : State), U'.heap = U.heap → V.vm.Alike V'.vm → V'.heap = V.heap → Got a D fV fC A o len r U V → Got a D fV fC A o len r U' V' :=
  fun r U U' V V' h1 hal h2 ⟨e0, D', X, a1, a2, a3, a4, a5, a6, a7, a8, a9, a10, a11⟩ => ⟨e0, D', X, a1.mv hal h2, a2, by rw [h1]; exact a3, a4, by rw [h1]; exact a5.mv hal h2, a6, by rw [hal.findClass]; exact a7, a8, a9, by rw [h1, h2]; exact a10, by rw [h1, h2]; exact a11⟩
namespace New4
def yN : MethodName := ⟨"java/lang/String", "<init>", "([CIILjava/lang/Void;)V"⟩
abbrev yB : ByteArray := jdk_42_method_149_code
theorem d0 : decode yB 0 = .ok (.aload_n 0, 1) := by decide +kernel
theorem d1 : decode yB 1 = .ok (.invokespecial 1, 3) := by decide +kernel
theorem d4 : decode yB 4 = .ok (.iload_n 3, 1) := by decide +kernel
theorem d5 : decode yB 5 = .ok (.ifCond (.ne) 22, 3) := by decide +kernel
theorem d27 : decode yB 27 = .ok (.getstatic 38, 3) := by decide +kernel
theorem d30 : decode yB 30 = .ok (.ifCond (.eq) 28, 3) := by decide +kernel
theorem d33 : decode yB 33 = .ok (.aload_n 1, 1) := by decide +kernel
theorem d34 : decode yB 34 = .ok (.iload_n 2, 1) := by decide +kernel
theorem d35 : decode yB 35 = .ok (.iload_n 3, 1) := by decide +kernel
theorem d36 : decode yB 36 = .ok (.invokestatic 177, 3) := by decide +kernel
theorem d39 : decode yB 39 = .ok (.astore 5, 2) := by decide +kernel
theorem d41 : decode yB 41 = .ok (.aload_n 0, 1) := by decide +kernel
theorem d42 : decode yB 42 = .ok (.aload 5, 2) := by decide +kernel
theorem d44 : decode yB 44 = .ok (.iload_n 3, 1) := by decide +kernel
theorem d45 : decode yB 45 = .ok (.invokestatic 47, 3) := by decide +kernel
theorem d48 : decode yB 48 = .ok (.putfield 15, 3) := by decide +kernel
theorem d51 : decode yB 51 = .ok (.aload_n 0, 1) := by decide +kernel
theorem d52 : decode yB 52 = .ok (.aload 5, 2) := by decide +kernel
theorem d54 : decode yB 54 = .ok (.putfield 9, 3) := by decide +kernel
theorem d57 : decode yB 57 = .ok (.return_, 1) := by decide +kernel
def site : List Cond := [.fieldLink "java/lang/String" 38 "java/lang/String" "COMPACT_STRINGS" "Z", Cmp3.tab, CodL.tab, .laysFinal "java/lang/String" "java/lang/String" "value" "[B", .fieldLink "java/lang/String" 9 "java/lang/String" "value" "[B", .laysFinal "java/lang/String" "java/lang/String" "coder" "B", .fieldLink "java/lang/String" 15 "java/lang/String" "coder" "B"] ++ objW "java/lang/String" 1 ++ staticW "java/lang/String" 177 Cmp3.yN ++ staticW "java/lang/String" 47 CodL.yN
def tab : Cond := tabOf yN yB 6 none site
def P (a : Addr) (D : Cell) (fV fC : Field) (b : Addr) (A : Cell) (z : Int32) (o len : Nat) (args : Array Value) (s : State) : Prop := args = #[.ref a, .ref b, .int (Int32.ofNat o), .int (Int32.ofNat len), .null] ∧ Blank "java/lang/String" a D s ∧ Found "java/lang/String" "value" "[B" fV s ∧ Found "java/lang/String" "coder" "B" fC s ∧ Ch b A s ∧ StaticIs s "java/lang/String" "COMPACT_STRINGS" "Z" (.int z) ∧ ¬ z = 0 ∧ 0 < len ∧ o + len ≤ A.slots.size ∧ len ≤ 536870912 ∧ ∀ i, i < len → ¬ 255 < cv A (o + i)
def E (a : Addr) (D : Cell) (fV fC : Field) (A : Cell) (o len : Nat) (r : Option Value) (s u : State) : Prop := Got a D fV fC A o len r s u
/-- len > 0, no char of the range above 255: a Latin-1 String of their low bytes -/
theorem law (l : Launch) (a : Addr) (D : Cell) (fV fC : Field) (b : Addr) (A : Cell) (z : Int32) (o len : Nat) : Law l yN 5 4 2 35 yB 6 none site (P a D fV fC b A z o len) (E a D fV fC A o len) [⟨a, fC.slot⟩, ⟨a, fV.slot⟩] 1 len := by
  refine Law.of_walk (plainFor_of_name (by decide +kernel)) (by decide +kernel) (by decide +kernel) (by decide) (fun _ _ h => by rw [h.1]; rfl) (fun _ U U' hal hh h => ⟨h.1, h.2.1.mv hal hh, h.2.2.1.al hal, h.2.2.2.1.al hal, h.2.2.2.2.1.mv hal hh, h.2.2.2.2.2.1.there hal hh, h.2.2.2.2.2.2⟩) (fun r U U' V V' h1 hal h2 h => Got.mv r U U' V V' h1 hal h2 h) ?_
  intro p e s m args below meth c s₁ X0 hexec hbytes hml hret hlk hnm hown hh0 W hP
  obtain ⟨rfl, hB, f1, f2, hA, s1, hz, l0, l1, l2, hp⟩ := hP
  have a31 := hA.1.2.2.2
  have c1 : Steps p.tables e below (s₁.setTop (entryFrame m #[.ref a, .ref b, .int (Int32.ofNat o), .int (Int32.ofNat len), .null] 6)) (s₁.setTop (mkF m 0 #[.val (.ref a), .val (.ref b), .val (.int (Int32.ofNat o)), .val (.int (Int32.ofNat len)), .val .null, .unset] [])) := entry rfl
  have c2 : Steps p.tables e below (s₁.setTop (entryFrame m #[.ref a, .ref b, .int (Int32.ofNat o), .int (Int32.ofNat len), .null] 6)) (s₁.setTop (mkF m 1 #[.val (.ref a), .val (.ref b), .val (.int (Int32.ofNat o)), .val (.int (Int32.ofNat len)), .val .null, .unset] [.ref a])) := c1.trans (by
    refine XS.aloadN X0.here hexec rfl (hb hbytes d0) rfl rfl ?_
    exact Steps.refl _)
  obtain ⟨T3, X3, q3, st3⟩ := X0.oinit hexec hown (wks W (objW "java/lang/String" 1)) (g := (mkF m 1 #[.val (.ref a), .val (.ref b), .val (.int (Int32.ofNat o)), .val (.int (Int32.ofNat len)), .val .null, .unset] [.ref a])) rfl (by rw [hml]; rfl) (rest := []) rfl (hb hbytes d1) (W := 0) (by show 2 * 0 + 0 ≤ _; decide) (Nat.le_of_ble_eq_true rfl) (Nat.le_of_ble_eq_true rfl)
  have hh3 := q3.trans hh0
  have c4 : Steps p.tables e below (s₁.setTop (entryFrame m #[.ref a, .ref b, .int (Int32.ofNat o), .int (Int32.ofNat len), .null] 6)) (T3.setTop (mkF m 27 #[.val (.ref a), .val (.ref b), .val (.int (Int32.ofNat o)), .val (.int (Int32.ofNat len)), .val .null, .unset] [])) := (c2.trans (st3 _ (Steps.refl _))).trans (by
    refine XS.iloadN X3.here hexec rfl (hb hbytes d4) rfl ?_
    refine XS.ifYes X3.here hexec rfl (pc0 := 5) rfl (hb hbytes d5) rfl (i0_ne_t (nz32 (by omega) l0)) (by decide) rfl ?_
    exact Steps.refl _)
  obtain ⟨T5, X5, q5, st5⟩ := X3.sget hexec hown (wk W (.fieldLink "java/lang/String" 38 "java/lang/String" "COMPACT_STRINGS" "Z")) s1 (fun _ _ h => by rw [hh3]; exact h) (g := (mkF m 27 #[.val (.ref a), .val (.ref b), .val (.int (Int32.ofNat o)), .val (.int (Int32.ofNat len)), .val .null, .unset] [])) rfl (hb hbytes d27)
  have hh5 := q5.trans hh3
  have c6 : Steps p.tables e below (s₁.setTop (entryFrame m #[.ref a, .ref b, .int (Int32.ofNat o), .int (Int32.ofNat len), .null] 6)) (T5.setTop (mkF m 30 #[.val (.ref a), .val (.ref b), .val (.int (Int32.ofNat o)), .val (.int (Int32.ofNat len)), .val .null, .unset] [.int z])) := c4.trans (st5 _ (Steps.refl _))
  have c7 : Steps p.tables e below (s₁.setTop (entryFrame m #[.ref a, .ref b, .int (Int32.ofNat o), .int (Int32.ofNat len), .null] 6)) (T5.setTop (mkF m 36 #[.val (.ref a), .val (.ref b), .val (.int (Int32.ofNat o)), .val (.int (Int32.ofNat len)), .val .null, .unset] [.int (Int32.ofNat len), .int (Int32.ofNat o), .ref b])) := c6.trans (by
    refine XS.ifNo X5.here hexec rfl (hb hbytes d30) rfl (i0_eq_f hz) ?_
    refine XS.aloadN X5.here hexec rfl (hb hbytes d33) rfl rfl ?_
    refine XS.iloadN X5.here hexec rfl (hb hbytes d34) rfl ?_
    refine XS.iloadN X5.here hexec rfl (hb hbytes d35) rfl ?_
    exact Steps.refl _)
  obtain ⟨v8, T8, X8, E8, g8⟩ := X5.callS hexec (Cmp3.law l b A o len) hown (wks W (staticW "java/lang/String" 177 Cmp3.yN)) (wk W Cmp3.tab) (W := 0) (Nat.le_of_ble_eq_true rfl) (Nat.le_of_ble_eq_true rfl) (Nat.le_refl _) (by show 0 + len ≤ len; omega) (g := (mkF m 36 #[.val (.ref a), .val (.ref b), .val (.int (Int32.ofNat o)), .val (.int (Int32.ofNat len)), .val .null, .unset] [.int (Int32.ofNat len), .int (Int32.ofNat o), .ref b])) rfl (by rw [hml]; rfl) c7 (argsL := [.ref b, .int (Int32.ofNat o), .int (Int32.ofNat len)]) (rest := []) rfl rfl (by show 2 * 0 + 0 ≤ _; decide) (hb hbytes d36) (⟨rfl, hA.mv X5.warmed.alike hh5, l1, l2, hp⟩)
  obtain ⟨e8, z8⟩ := E8
  obtain ⟨rfl, N, n1, n2, n3, n4, n5, n6⟩ := NewArr.mv _ T5 s _ _ hh5.symm (Vm.Alike.refl _) rfl e8
  rw [hh5] at z8
  have hB1 := hB.keep X8.warmed.alike (n6 _ _ hB.1)
  have hne : s.heap.size ≠ a := (Nat.ne_of_lt (Array.getElem?_eq_some_iff.mp hB.1).1).symm
  have c9 : Steps p.tables e below (s₁.setTop (entryFrame m #[.ref a, .ref b, .int (Int32.ofNat o), .int (Int32.ofNat len), .null] 6)) (T8.setTop (mkF m 39 #[.val (.ref a), .val (.ref b), .val (.int (Int32.ofNat o)), .val (.int (Int32.ofNat len)), .val .null, .unset] [.ref s.heap.size])) := g8
  have c10 : Steps p.tables e below (s₁.setTop (entryFrame m #[.ref a, .ref b, .int (Int32.ofNat o), .int (Int32.ofNat len), .null] 6)) (T8.setTop (mkF m 45 #[.val (.ref a), .val (.ref b), .val (.int (Int32.ofNat o)), .val (.int (Int32.ofNat len)), .val .null, .val (.ref s.heap.size)] [.int (Int32.ofNat N.slots.size), .ref s.heap.size, .ref a])) := by
    have hc : Steps p.tables e below (s₁.setTop (entryFrame m #[.ref a, .ref b, .int (Int32.ofNat o), .int (Int32.ofNat len), .null] 6)) (T8.setTop (mkF m 45 #[.val (.ref a), .val (.ref b), .val (.int (Int32.ofNat o)), .val (.int (Int32.ofNat len)), .val .null, .val (.ref s.heap.size)] [.int (Int32.ofNat len), .ref s.heap.size, .ref a])) := c9.trans (by
      refine XS.astore X8.here hexec rfl (hb hbytes d39) rfl rfl rfl ?_
      refine XS.aloadN X8.here hexec rfl (hb hbytes d41) rfl rfl ?_
      refine XS.aload X8.here hexec rfl (hb hbytes d42) rfl rfl ?_
      refine XS.iloadN X8.here hexec rfl (hb hbytes d44) rfl ?_
      exact Steps.refl _)
    rw [n4]; exact hc
  obtain ⟨v11, T11, X11, E11, g11⟩ := X8.callS hexec (CodL.law l s.heap.size N) hown (wks W (staticW "java/lang/String" 47 CodL.yN)) (wk W CodL.tab) (W := 1) (Nat.le_of_ble_eq_true rfl) (Nat.le_of_ble_eq_true rfl) (Nat.le_refl _) (by show 0 + len + 0 ≤ len; omega) (g := (mkF m 45 #[.val (.ref a), .val (.ref b), .val (.int (Int32.ofNat o)), .val (.int (Int32.ofNat len)), .val .null, .val (.ref s.heap.size)] [.int (Int32.ofNat N.slots.size), .ref s.heap.size, .ref a])) rfl (by rw [hml]; rfl) c10 (argsL := [.ref s.heap.size, .int (Int32.ofNat N.slots.size)]) (rest := [.ref a]) rfl rfl (by show 2 * 0 + (1 + 0) ≤ _; decide) (hb hbytes d45) (⟨rfl, n1⟩)
  obtain ⟨rfl, q11⟩ := E11
  have hB11 := hB1.mv (X8.warmed.alike.symm.trans X11.warmed.alike) q11
  have c12 : Steps p.tables e below (s₁.setTop (entryFrame m #[.ref a, .ref b, .int (Int32.ofNat o), .int (Int32.ofNat len), .null] 6)) (T11.setTop (mkF m 48 #[.val (.ref a), .val (.ref b), .val (.int (Int32.ofNat o)), .val (.int (Int32.ofNat len)), .val .null, .val (.ref s.heap.size)] [.int 0, .ref a])) := g11
  obtain ⟨T13, X13, p13, bl13, sl13, st13⟩ := X11.finit hexec hown (wk W (.fieldLink "java/lang/String" 15 "java/lang/String" "coder" "B")) (Or.inr ⟨_, (wk W (.laysFinal "java/lang/String" "java/lang/String" "coder" "B"))⟩) (Or.inl ⟨rfl, hnm⟩) f2 (Or.inl rfl) hB11 (t := .byte) (by decide +kernel) rfl (g := (mkF m 48 #[.val (.ref a), .val (.ref b), .val (.int (Int32.ofNat o)), .val (.int (Int32.ofNat len)), .val .null, .val (.ref s.heap.size)] [.int 0, .ref a])) rfl (rest := []) rfl (hb hbytes d48)
  have c14 : Steps p.tables e below (s₁.setTop (entryFrame m #[.ref a, .ref b, .int (Int32.ofNat o), .int (Int32.ofNat len), .null] 6)) (T13.setTop (mkF m 54 #[.val (.ref a), .val (.ref b), .val (.int (Int32.ofNat o)), .val (.int (Int32.ofNat len)), .val .null, .val (.ref s.heap.size)] [.ref s.heap.size, .ref a])) := (c12.trans (st13 _ (Steps.refl _))).trans (by
    refine XS.aloadN X13.here hexec rfl (hb hbytes d51) rfl rfl ?_
    refine XS.aload X13.here hexec rfl (hb hbytes d52) rfl rfl ?_
    exact Steps.refl _)
  obtain ⟨T15, X15, p15, bl15, sl15, st15⟩ := X13.finit hexec hown (wk W (.fieldLink "java/lang/String" 9 "java/lang/String" "value" "[B")) (Or.inr ⟨_, (wk W (.laysFinal "java/lang/String" "java/lang/String" "value" "[B"))⟩) (Or.inl ⟨rfl, hnm⟩) f1 (Or.inl rfl) bl13 (t := (.array .byte)) (by decide +kernel) rfl (g := (mkF m 54 #[.val (.ref a), .val (.ref b), .val (.int (Int32.ofNat o)), .val (.int (Int32.ofNat len)), .val .null, .val (.ref s.heap.size)] [.ref s.heap.size, .ref a])) rfl (rest := []) rfl (hb hbytes d54)
  have c16 : Steps p.tables e below (s₁.setTop (entryFrame m #[.ref a, .ref b, .int (Int32.ofNat o), .int (Int32.ofNat len), .null] 6)) (T15.setTop (mkF m 57 #[.val (.ref a), .val (.ref b), .val (.int (Int32.ofNat o)), .val (.int (Int32.ofNat len)), .val .null, .val (.ref s.heap.size)] [])) := c14.trans (st15 _ (Steps.refl _))
  have ap := apart (Or.inr ⟨_, (wk W (.laysFinal "java/lang/String" "java/lang/String" "value" "[B"))⟩) (Or.inr ⟨_, (wk W (.laysFinal "java/lang/String" "java/lang/String" "coder" "B"))⟩) f1 f2 (t₁ := .array .byte) (t₂ := .byte) (by decide +kernel) (by decide +kernel) (by decide)
  have al := X8.warmed.alike.symm.trans X15.warmed.alike
  have n7 : T11.heap[s.heap.size]? = some N := by rw [q11]; exact n1.1
  exact ⟨T15, none, _, _, _, X15, by simp, rfl, by omega, (fun _ => rfl), ⟨rfl, _, N, bl15, ((Same.refl D _).set _ (by simp)).set _ (by simp), sl15, (Cell.slots_setSlot_ne _ ap).trans sl13, n1.keep al (p15.other hne (p13.other hne n7)), n2, by rw [al.findClass]; exact n3, n4, n5, fun y c h1 h2 => p15.other h1 (p13.other h1 (by rw [q11]; exact n6 y c h2)), by rw [p15.2.2, p13.2.2, q11]; exact z8⟩, fun fs hl => c16.trans (X15.returnOut hexec hret (hb hbytes d57) hl)⟩
end New4
namespace New1
def yN : MethodName := ⟨"java/lang/String", "<init>", "([C)V"⟩
abbrev yB : ByteArray := jdk_42_method_3_code
theorem d0 : decode yB 0 = .ok (.aload_n 0, 1) := by decide +kernel
theorem d1 : decode yB 1 = .ok (.aload_n 1, 1) := by decide +kernel
theorem d2 : decode yB 2 = .ok (.iconst 0, 1) := by decide +kernel
theorem d3 : decode yB 3 = .ok (.aload_n 1, 1) := by decide +kernel
theorem d4 : decode yB 4 = .ok (.arraylength, 1) := by decide +kernel
theorem d5 : decode yB 5 = .ok (.aconst_null, 1) := by decide +kernel
theorem d6 : decode yB 6 = .ok (.invokespecial 27, 3) := by decide +kernel
theorem d9 : decode yB 9 = .ok (.return_, 1) := by decide +kernel
def site : List Cond := [New4.tab] ++ initW "java/lang/String" 27 New4.yN
def tab : Cond := tabOf yN yB 2 none site
def P (a : Addr) (D : Cell) (fV fC : Field) (b : Addr) (A : Cell) (z : Int32) (args : Array Value) (s : State) : Prop := args = #[.ref a, .ref b] ∧ Blank "java/lang/String" a D s ∧ Found "java/lang/String" "value" "[B" fV s ∧ Found "java/lang/String" "coder" "B" fC s ∧ Ch b A s ∧ StaticIs s "java/lang/String" "COMPACT_STRINGS" "Z" (.int z) ∧ ¬ z = 0 ∧ 0 < A.slots.size ∧ A.slots.size ≤ 536870912 ∧ ∀ i, i < A.slots.size → ¬ 255 < cv A i
def E (a : Addr) (D : Cell) (fV fC : Field) (A : Cell) (r : Option Value) (s u : State) : Prop := Got a D fV fC A 0 A.slots.size r s u
/-- new String(chars), not empty, no char above 255: a Latin-1 String of their low bytes -/
theorem law (l : Launch) (a : Addr) (D : Cell) (fV fC : Field) (b : Addr) (A : Cell) (z : Int32) : Law l yN 2 1 3 52 yB 2 none site (P a D fV fC b A z) (E a D fV fC A) [⟨a, fC.slot⟩, ⟨a, fV.slot⟩] 1 A.slots.size := by
  refine Law.of_walk (plainFor_of_name (by decide +kernel)) (by decide +kernel) (by decide +kernel) (by decide) (fun _ _ h => by rw [h.1]; rfl) (fun _ U U' hal hh h => ⟨h.1, h.2.1.mv hal hh, h.2.2.1.al hal, h.2.2.2.1.al hal, h.2.2.2.2.1.mv hal hh, h.2.2.2.2.2.1.there hal hh, h.2.2.2.2.2.2⟩) (fun r U U' V V' h1 hal h2 h => Got.mv r U U' V V' h1 hal h2 h) ?_
  intro p e s m args below meth c s₁ X0 hexec hbytes hml hret hlk hnm hown hh0 W hP
  obtain ⟨rfl, hB, f1, f2, hA, s1, hz, l0, l2, hp⟩ := hP
  have c1 : Steps p.tables e below (s₁.setTop (entryFrame m #[.ref a, .ref b] 2)) (s₁.setTop (mkF m 0 #[.val (.ref a), .val (.ref b)] [])) := entry rfl
  have c2 : Steps p.tables e below (s₁.setTop (entryFrame m #[.ref a, .ref b] 2)) (s₁.setTop (mkF m 6 #[.val (.ref a), .val (.ref b)] [.null, .int (Int32.ofNat A.slots.size), .int 0, .ref b, .ref a])) := c1.trans (by
    refine XS.aloadN X0.here hexec rfl (hb hbytes d0) rfl rfl ?_
    refine XS.aloadN X0.here hexec rfl (hb hbytes d1) rfl rfl ?_
    refine iconstV X0.here hexec rfl 0 (hb hbytes d2) (by decide) ?_
    refine XS.aloadN X0.here hexec rfl (hb hbytes d3) rfl rfl ?_
    refine X0.alen hexec (hA.1.mv X0.warmed.alike hh0) rfl rfl (hb hbytes d4) ?_
    refine XS.aconstNull X0.here hexec rfl (hb hbytes d5) ?_
    exact Steps.refl _)
  obtain ⟨v3, T3, X3, E3, g3⟩ := X0.callN hexec (New4.law l a D fV fC b A z 0 A.slots.size) rfl hown (wks W (initW "java/lang/String" 27 New4.yN)) (W New4.tab (by simp only [site, List.mem_cons, List.mem_append, true_or, or_true])) (W := 0) (Nat.le_of_ble_eq_true rfl) (Nat.le_of_ble_eq_true rfl) (Nat.le_refl _) (by show 0 + A.slots.size ≤ A.slots.size; omega) (g := (mkF m 6 #[.val (.ref a), .val (.ref b)] [.null, .int (Int32.ofNat A.slots.size), .int (Int32.ofNat 0), .ref b, .ref a])) rfl (by rw [hml]; rfl) c2 (argsL := [.ref b, .int (Int32.ofNat 0), .int (Int32.ofNat A.slots.size), .null]) (rest := []) rfl rfl (by show 2 * 0 + 0 ≤ _; decide) (hb hbytes d6) (⟨rfl, hB.mv X0.warmed.alike hh0, f1.al X0.warmed.alike, f2.al X0.warmed.alike, hA.mv X0.warmed.alike hh0, s1.there X0.warmed.alike hh0, hz, l0, by omega, l2, fun i hi => by rw [Nat.zero_add]; exact hp i hi⟩)
  have e0 := Got.mv _ s₁ s _ _ hh0.symm (Vm.Alike.refl _) rfl E3
  obtain rfl := e0.1
  have c4 : Steps p.tables e below (s₁.setTop (entryFrame m #[.ref a, .ref b] 2)) (T3.setTop (mkF m 9 #[.val (.ref a), .val (.ref b)] [])) := g3
  exact ⟨T3, none, _, _, _, X3, by simp, rfl, by omega, (fun _ => rfl), e0, fun fs hl => c4.trans (X3.returnOut hexec hret (hb hbytes d9) hl)⟩
theorem pays {l : Launch} {R : Room} {p : Program} {e : Env} {below : List Frame} {s : State} {sargs : Array Value} {len W : Nat} (a : Addr) (D : Cell) (fV fC : Field) (b : Addr) (A : Cell) (z : Int32) (htab : tab.before sargs s = true) (hfr : 4 ≤ R.frames) (hlo : W + 65 ≤ R.locals) :
    Back l R p e below s sargs yN len W (fun A₁ a₁ => A₁.cells + 1 ≤ R.cells ∧ A₁.slots + A.slots.size ≤ R.slots ∧ P a D fV fC b A z a₁ A₁.U) (fun A₁ _ v₁ B₁ => E a D fV fC A v₁ A₁.U B₁.U ∧ B₁.locs = A₁.locs ++ [⟨a, fC.slot⟩, ⟨a, fV.slot⟩] ∧ B₁.cells = A₁.cells + 1 ∧ B₁.slots = A₁.slots + A.slots.size) :=
  (law l a D fV fC b A z).pays htab hfr (by omega)
end New1
/-- the byte, read back as charAt reads it, is the char -/
theorem lo8_mask {x : Int32} (h0 : ¬ x < 0) (h1 : ¬ 255 < x) : lo8 x &&& 255 = x := by
  have t : ∀ k : Fin 256, lo8 (Int32.ofNat k.val) &&& 255 = Int32.ofNat k.val := by decide +kernel
  rw [Int32.lt_iff_toInt_lt] at h0 h1
  have e0 : (0 : Int32).toInt = 0 := rfl
  have e1 : (255 : Int32).toInt = 255 := rfl
  obtain ⟨k, hk⟩ : ∃ k : Nat, x.toInt = k := ⟨x.toInt.toNat, by omega⟩
  have hx : x = Int32.ofNat k := Int32.toInt_inj.mp (by rw [hk, Int32.toInt_ofNat_small (by omega)])
  rw [hx]
  exact t ⟨k, by omega⟩
end StrChars
namespace StrChars.Road
open Jvm Sem ClassFile Op Lib Jvm.Stand Jvm.Free Jvm.Free.XT
open Jvm.Lib.Cold (StaticIs)
abbrev ST : String := "java/lang/String"
/-- every table word that New1's law asks, flat -/
abbrev words : List Jvm.Cond := [.code New1.yN New1.yB 2 none, .initialized ST, .methodLink ST 27 New4.yN, .instanceMethod New4.yN,
  .code New4.yN New4.yB 6 none, .fieldLink ST 38 ST "COMPACT_STRINGS" "Z", .laysFinal ST ST "value" "[B", .fieldLink ST 9 ST "value" "[B", .laysFinal ST ST "coder" "B", .fieldLink ST 15 ST "coder" "B",
  .methodLink ST 1 Lib.objectInit, .instanceMethod Lib.objectInit, .code Lib.objectInit ⟨#[0xb1]⟩ 1 none, .methodLink ST 177 Cmp3.yN, .static Cmp3.yN, .methodLink ST 47 CodL.yN, .static CodL.yN,
  .code Cmp3.yN Cmp3.yB 6 (some (.array .byte)), .initialized U16, .arrayClass .byte, .methodLink U16 115 Cmp5.yN, .static Cmp5.yN, .code Cmp5.yN Cmp5.yB 7 (some .int), .code CodL.yN CodL.yB 2 (some .byte)]
theorem tab_of {a : Array Value} {s : State} (h : ∀ w ∈ words, w.before a s = true) : New1.tab.before a s = true := by
  have h5 : Cmp5.tab.before a s = true := unparts (wk h (.code Cmp5.yN Cmp5.yB 7 (some .int))) (wks h (.initialized Cmp5.yN.cls :: Cmp5.site))
  have hc : CodL.tab.before a s = true := unparts (wk h (.code CodL.yN CodL.yB 2 (some .byte))) (wks h (.initialized CodL.yN.cls :: CodL.site))
  have q5 : ∀ w ∈ Cmp5.tab :: words, w.before a s = true := fun w hw => (List.mem_cons.mp hw).elim (fun e => e ▸ h5) (h w)
  have h3 : Cmp3.tab.before a s = true := unparts (wk q5 (.code Cmp3.yN Cmp3.yB 6 (some (.array .byte)))) (wks q5 (.initialized Cmp3.yN.cls :: Cmp3.site))
  have q3 : ∀ w ∈ Cmp3.tab :: CodL.tab :: words, w.before a s = true := fun w hw => (List.mem_cons.mp hw).elim (fun e => e ▸ h3) fun hw => (List.mem_cons.mp hw).elim (fun e => e ▸ hc) (h w)
  have h4 : New4.tab.before a s = true := unparts (wk q3 (.code New4.yN New4.yB 6 none)) (wks q3 (.initialized New4.yN.cls :: New4.site))
  have q4 : ∀ w ∈ New4.tab :: words, w.before a s = true := fun w hw => (List.mem_cons.mp hw).elim (fun e => e ▸ h4) (h w)
  exact unparts (wk q4 (.code New1.yN New1.yB 2 none)) (wks q4 (.initialized New1.yN.cls :: New1.site))
/-- the words ride from the start Z to the walk's own state -/
theorem moved {Z s : State} {a0 args : Array Value} (hZ : Z.Warmed39 s.vm) (hw : ∀ d ∈ words, d.before a0 Z = true) : ∀ d ∈ words, d.before args s = true := fun d hd => by
  have q := hw d hd
  have t : ∀ d ∈ words, d = .arrayClass .byte ∨ (d.onTables && d.keepsFace) = true := by decide +kernel
  rcases t d hd with rfl | t
  · exact RoadKit.mvA hZ q
  · exact RoadKit.mv hZ q t
/-- WHAT COMES BACK, over the tables of the start Z: h the heap at the call, h' behind it -/
def Q (Z : State) (x : Addr) (A : Cell) (h : Heap) (v : Option Value) (h' : Heap) (L : List Loc) : Prop := v = none ∧ (∀ y ∈ L, y.base = x) ∧ RoadKit.Keep h h' [x] ∧ h'.size = h.size + 1 ∧ RoadKit.Exa Z h' x ST ∧ RoadKit.Fld Z h' x ST "value" "[B" (.ref h.size) ∧ RoadKit.Fld Z h' x ST "coder" "B" (.int 0) ∧
  (∃ V : Cell, RoadKit.Arr Z h' h.size V .byte ∧ V.vm = .none ∧ Z.vm.findClass "[B" = some V.cls ∧ V.slots.size = A.slots.size ∧ ∀ j, j < A.slots.size → V.slots[j]? = some (.int (lo8 (cv A j)))) ∧
  ∀ (O n d : String) (w : Value), RoadKit.Fld Z h x O n d w → RoadKit.slotOf Z O n d ≠ RoadKit.slotOf Z ST "value" "[B" → RoadKit.slotOf Z O n d ≠ RoadKit.slotOf Z ST "coder" "B" → RoadKit.Fld Z h' x O n d w
/-- **new String(chars) AT A CALL, IN THE ROAD'S FORM**: for specialBack behind newO: x the fresh String, b the char[] with the cell A -/
theorem back {p : Program} {l : Launch} {e : Env} {R : Room} {s : State} {args : Array Value} {below : List Frame} {len W : Nat} {Z : State} {a0 : Array Value} {h : Heap} (hZ : Z.Warmed39 s.vm) (hw : ∀ d ∈ words, d.before a0 Z = true) {kI : Nat} (wi : (Jvm.Cond.instantiable ST kI).before a0 Z = true)
    {x b : Addr} {A : Cell} {z : Int32} {v0 c0 : Value} (E : RoadKit.Exa Z h x ST) (V : RoadKit.Fld Z h x ST "value" "[B" v0) (C : RoadKit.Fld Z h x ST "coder" "B" c0) (K : RoadKit.Arr Z h b A .char) (hty : Typed .char A) (S : RoadKit.Sta Z h ST "COMPACT_STRINGS" "Z" (.int z)) (hz : ¬ z = 0)
    (l0 : 0 < A.slots.size) (l2 : A.slots.size ≤ 536870912) (hp : ∀ i, i < A.slots.size → ¬ 255 < cv A i) (hfr : 4 ≤ R.frames) (hlo : W + 65 ≤ R.locals) :
    Back l R p e below s args New1.yN len W (fun P a => a = #[.ref x, .ref b] ∧ P.U.heap = h ∧ P.cells + 1 ≤ R.cells ∧ P.slots + A.slots.size ≤ R.slots)
      (fun P _ v B => ∃ L, Q Z x A h v B.U.heap L ∧ B.locs = P.locs ++ L ∧ B.cells = P.cells + 1 ∧ B.slots = P.slots + A.slots.size) := by
  intro m meth c P g ig mk a X hg hsize hdg hW hn hp'
  obtain ⟨rfl, rfl, r1, r2⟩ := hp'
  have al : Z.vm.Alike P.U.vm := hZ.alike.trans X.warmed.alike
  obtain ⟨D, cfV, kV, iV, fV, hD, gV, stV, knV, obV, asV, slV⟩ := id V
  obtain ⟨D', cfC, kC, iC, fC, hD', gC, stC, -, -, asC, slC⟩ := id C
  cases hD.symm.trans hD'
  obtain ⟨D2, kD, e1, e2, e3, e4, e5⟩ := id E
  cases hD.symm.trans e1
  obtain ⟨c2, k2, i1, i2, i3, -⟩ := Cond.instantiable_spec wi
  cases e2.symm.trans i1
  cases e3.symm.trans i2
  obtain ⟨kU, u1, u2⟩ := al.2.2 _ _ e3
  have hB : Blank ST x D P.U := ⟨hD, ⟨knV, fun q hq => by rw [hq] at obV; cases obV⟩, by rw [al.findClass]; exact e2, kU, u1, by rw [u2]; exact i3, by rw [u2]; exact e5 i3⟩
  have F1 : Found ST "value" "[B" fV P.U := ⟨SBG.found_only al ⟨cfV, kV, iV, gV⟩, stV⟩
  have F2 : Found ST "coder" "B" fC P.U := ⟨SBG.found_only al ⟨cfC, kC, iC, gC⟩, stC⟩
  have hA : Ch b A P.U := ⟨⟨K.1, State.isArrayOf_alike al K.2.1, K.2.2, by omega⟩, hty⟩
  have hS : StaticIs P.U ST "COMPACT_STRINGS" "Z" (.int z) := by
    obtain ⟨cfS, iS, kS, fS, st, cS, t1, t2, t3, t4, t5, t6, t7⟩ := S
    exact StaticIs.there (s := { Z with heap := P.U.heap }) ⟨cfS, iS, kS, fS, st, cS, t1, t2, t3, t4, t5, (fun q => by rw [q] at t6; cases t6), t7⟩ al rfl
  obtain ⟨v, B, X', ⟨⟨hv, E', V', q1, q2, q3, q4, q5, q6, q7, q8, q9, q10, q11⟩, hl, hc, hs⟩, st⟩ := New1.pays x D fV fC b A z (tab_of (moved hZ hw)) hfr hlo m meth c P g ig mk _ X hg hsize hdg hW hn ⟨r1, r2, rfl, hB, F1, F2, hA, hS, hz, l0, l2, hp⟩
  have al' : Z.vm.Alike B.U.vm := hZ.alike.trans X'.warmed.alike
  have hsz : E'.slots.size = D.slots.size := by
    obtain ⟨-, -, -, kB, w1, w2, w3⟩ := q1
    obtain ⟨kB', y1, y2⟩ := al'.2.2 _ _ e3
    rw [q2.2.1] at w1
    cases w1.symm.trans y1
    rw [w3, e5 i3, y2]
  refine ⟨v, B, X', ⟨_, ⟨hv, ?_, ⟨by omega, fun y cy hy hn' => q10 y cy (by simpa using hn') hy, fun y cy hy => ?_⟩, q11, ⟨E', _, q1.1, by rw [q2.2.1]; exact e2, by rw [q2.2.1]; exact e3, by rw [q2.1]; exact obV, fun _ => by rw [hsz]; exact e5 i3⟩,
    ⟨E', cfV, kV, iV, fV, q1.1, gV, stV, by rw [q2.1]; exact knV, by rw [q2.1]; exact obV, by rw [q2.2.1]; exact asV, q3⟩, ⟨E', cfC, kC, iC, fC, q1.1, gC, stC, by rw [q2.1]; exact knV, by rw [q2.1]; exact obV, by rw [q2.2.1]; exact asC, q4⟩,
    ⟨V', ⟨q5.1, State.isArrayOf_alike al'.symm q5.2.1, q5.2.2.1⟩, q6, by rw [← al'.findClass]; exact q7, q8, fun j hj => by have := q9 j hj; rwa [Nat.zero_add] at this⟩, fun O n d w F n1 n2 => ?_⟩, hl, hc, hs⟩, st⟩
  · intro y hy
    simp only [List.mem_cons, List.not_mem_nil, or_false] at hy
    rcases hy with rfl | rfl <;> rfl
  · by_cases q : y = x
    · subst q
      cases hD.symm.trans hy
      exact ⟨E', q1.1, q2.2.1, q2.1, hsz⟩
    · exact ⟨cy, q10 y cy q hy, rfl, rfl, rfl⟩
  · obtain ⟨D3, cf, k, i, f, g1, g2, g3, g4, g5, g6, g7⟩ := F
    cases hD.symm.trans g1
    simp only [RoadKit.slotOf, g2, gV, gC, Option.map_some, Option.getD_some] at n1 n2
    exact ⟨E', cf, k, i, f, q1.1, g2, g3, by rw [q2.1]; exact g4, by rw [q2.1]; exact g5, by rw [q2.2.1]; exact g6, by rw [q2.2.2 f.slot (by simp [n1, n2])]; exact g7⟩
end StrChars.Road
namespace StrChars.Road
open Jvm Sem ClassFile Op Lib Jvm.Stand Jvm.Free Jvm.Free.XT
/-- WHAT COMES BACK, the byte[] as a list of values -/
def QA (Z : State) (x : Addr) (zn : Int32) (cs : List Int32) (h : Heap) (v : Option Value) (h' : Heap) (L : List Loc) : Prop := v = none ∧ (∀ y ∈ L, y.base = x) ∧ RoadKit.Keep h h' [x] ∧ h'.size = h.size + 1 ∧ RoadKit.Exa Z h' x ST ∧ RoadKit.Fld Z h' x ST "value" "[B" (.ref h.size) ∧ RoadKit.Fld Z h' x ST "coder" "B" (.int 0) ∧
  (∃ kb, Z.vm.findClass "[B" = some kb ∧ RoadKit.Arv Z h' h.size kb .byte zn (cs.map fun c => .int (lo8 c)) (.int 0)) ∧
  ∀ (O n d : String) (w : Value), RoadKit.Fld Z h x O n d w → RoadKit.slotOf Z O n d ≠ RoadKit.slotOf Z ST "value" "[B" → RoadKit.slotOf Z O n d ≠ RoadKit.slotOf Z ST "coder" "B" → RoadKit.Fld Z h' x O n d w
/-- **new String(chars) AT A CALL, THE ARRAYS AS LISTS**: the char[] at b holds cs, not empty, no char above 255 -/
theorem backArv {p : Program} {l : Launch} {e : Env} {R : Room} {s : State} {args : Array Value} {below : List Frame} {len W : Nat} {Z : State} {a0 : Array Value} {h : Heap} (hZ : Z.Warmed39 s.vm) (hw : ∀ d ∈ words, d.before a0 Z = true) {kI : Nat} (wi : (Jvm.Cond.instantiable ST kI).before a0 Z = true)
    {x b : Addr} {k : ClassId} {zn z : Int32} {cs : List Int32} {dv v0 c0 : Value} (E : RoadKit.Exa Z h x ST) (V : RoadKit.Fld Z h x ST "value" "[B" v0) (C : RoadKit.Fld Z h x ST "coder" "B" c0) (K : RoadKit.Arv Z h b k .char zn (cs.map Value.int) dv) (S : RoadKit.Sta Z h ST "COMPACT_STRINGS" "Z" (.int z)) (hz : ¬ z = 0)
    (hlen : zn.toNatClampNeg = cs.length) (h0 : 0 < cs.length) (hbig : cs.length ≤ 536870912) (hall : ∀ c ∈ cs, ¬ 255 < c) (hfr : 4 ≤ R.frames) (hlo : W + 65 ≤ R.locals) :
    Back l R p e below s args New1.yN len W (fun P a => a = #[.ref x, .ref b] ∧ P.U.heap = h ∧ P.cells + 1 ≤ R.cells ∧ P.slots + cs.length ≤ R.slots)
      (fun P _ v B => ∃ L, QA Z x zn cs h v B.U.heap L ∧ B.locs = P.locs ++ L ∧ B.cells = P.cells + 1 ∧ B.slots = P.slots + cs.length) := by
  obtain ⟨A, K1, K2, K3, K4, K5, K6⟩ := K
  have e : A.slots.size = cs.length := K3.trans hlen
  have hat : ∀ (i : Nat) (hi : i < cs.length), A.slots[i]? = some (.int cs[i]) := fun i hi => by rw [K5 i (by omega)]; simp [List.getD_eq_getElem?_getD, hi]
  have hcv : ∀ (i : Nat) (hi : i < cs.length), cv A i = cs[i] := fun i hi => by unfold cv; rw [hat i hi]
  have hty : Typed .char A := fun i v hv => by
    have hi : i < A.slots.size := (Array.getElem?_eq_some_iff.mp hv).1
    have q := K5 i hi
    rw [hv] at q
    rw [Option.some.inj q]
    exact K6 i hi
  refine Back.mono (back hZ hw wi E V C K1 hty S hz (by omega) (by omega) (fun i hi => by rw [hcv i (by omega)]; exact hall _ (List.getElem_mem _)) hfr hlo) (fun P a hp => ⟨hp.1, hp.2.1, hp.2.2.1, by rw [e]; exact hp.2.2.2⟩) (fun P a v B hp hq => ?_)
  obtain ⟨L, ⟨q1, q2, q3, q4, q5, q6, q7, ⟨V', v1, v2, v3, v4, v5⟩, q9⟩, hl, hc, hs⟩ := hq
  refine ⟨L, ⟨q1, q2, q3, q4, q5, q6, q7, ⟨V'.cls, v3, V', v1, rfl, by rw [v4, e, hlen], K4, fun i hi => ?_, fun i hi => ?_⟩, q9⟩, hl, hc, by rw [hs, e]⟩
  · have hi' : i < cs.length := by omega
    rw [v5 i (by omega), hcv i hi']; simp [List.getD_eq_getElem?_getD, hi']
  · have hi' : i < cs.length := by omega
    simp only [List.getD_eq_getElem?_getD, List.getElem?_map, List.getElem?_eq_getElem hi', Option.map_some, Option.getD_some]
    exact fits_lo8 _
end StrChars.Road
namespace StrChars.Road
open Jvm Sem ClassFile Op Lib Jvm.Stand Jvm.Free Jvm.Free.XT
/-- WHAT COMES BACK, in the writer's own shape -/
def QV (Z : State) (x : Addr) (N : Int32) (bs : List Int32) (h : Heap) (n0 : Nat) (v : Option Value) (h' : Heap) (L : List Loc) : Prop := v = none ∧ RoadKit.Fr n0 L ∧ RoadKit.Keep h h' [x] ∧ RoadKit.Exa Z h' x ST ∧ RoadKit.Fld Z h' x ST "coder" "B" (.int 0) ∧
  ∃ (t : Addr) (kb : ClassId), n0 ≤ t ∧ h.size ≤ t ∧ ¬ t = x ∧ RoadKit.Fld Z h' x ST "value" "[B" (.ref t) ∧ RoadKit.Arv Z h' t kb .byte N (bs.map Value.int) (.int 0)
/-- **new String(chars) AT A CALL, FOR THE WRITER**: a char[] of n known ints, each 0 to 255 -/
theorem backV {p : Program} {l : Launch} {e : Env} {R : Room} {s : State} {args : Array Value} {below : List Frame} {len W : Nat} {Z : State} {a0 : Array Value} {h : Heap} (hZ : Z.Warmed39 s.vm) (hw : ∀ d ∈ words, d.before a0 Z = true) {kI : Nat} (wi : (Jvm.Cond.instantiable ST kI).before a0 Z = true)
    {x b : Addr} {kC : ClassId} {cs bs : List Int32} {d v0 c0 : Value} {z N : Int32} {n n0 : Nat} (hx0 : n0 ≤ x) (hh0 : n0 ≤ h.size) (E : RoadKit.Exa Z h x ST) (V : RoadKit.Fld Z h x ST "value" "[B" v0) (C : RoadKit.Fld Z h x ST "coder" "B" c0) (K : RoadKit.Arv Z h b kC .char N (cs.map Value.int) d) (S : RoadKit.Sta Z h ST "COMPACT_STRINGS" "Z" (.int z)) (hz : ¬ z = 0)
    (hn : cs.length = n) (hN : N = Int32.ofNat n) (l0 : 0 < n) (l2 : n ≤ 4000) (hp : ∀ c ∈ cs, ¬ c < 0 ∧ ¬ (255 : Int32) < c) (hb : bs = cs.map (fun c => c.toInt8.toInt32)) (hfr : 4 ≤ R.frames) (hlo : W + 65 ≤ R.locals) :
    Back l R p e below s args (⟨"java/lang/String", "<init>", "([C)V"⟩ : MethodName) len W (fun P a => a = #[.ref x, .ref b] ∧ P.U.heap = h ∧ P.cells + 1 ≤ R.cells ∧ P.slots + n ≤ R.slots)
      (fun P _ v B => ∃ L, QV Z x N bs h n0 v B.U.heap L ∧ B.locs = P.locs ++ L ∧ B.cells = P.cells + 1 ∧ B.slots = P.slots + n) := by
  subst hn hN hb
  refine Back.mono (backArv hZ hw wi E V C K S hz (n32 (by omega)) l0 (by omega) (fun c hc => (hp c hc).2) hfr hlo) (fun P a hp => hp) (fun P a v B hp hq => ?_)
  obtain ⟨L, ⟨q1, q2, q3, q4, q5, q6, q7, ⟨kb, v1, v2⟩, q9⟩, hl, hc, hs⟩ := hq
  exact ⟨L, ⟨q1, fun y hy => by rw [q2 y hy]; exact hx0, q3, q5, q7, h.size, kb, hh0, Nat.le_refl _, Nat.ne_of_gt E.lt, q6, by rw [List.map_map]; exact v2⟩, hl, hc, hs⟩
end StrChars.Road
namespace StrChars
open Jvm Sem ClassFile Op Lib Jvm.Stand Jvm.Free.XT Jvm.Free.ALB Jvm.Free.JM Jvm.Free
open Jvm.Lib.Cold (StaticIs)
def hi8 (x : Int32) : Int32 := lo8 (x >>> ((8 : Int32) &&& 31))
/-- what StringUTF16.getChar makes of two bytes -/
def pairCh (u v : Int32) : Int32 := (((u &&& 255) <<< ((0 : Int32) &&& 31)) ||| ((v &&& 255) <<< ((8 : Int32) &&& 31))).toUInt32.toUInt16.toUInt32.toInt32
theorem shr0 (c : Int32) : c >>> ((0 : Int32) &&& 31) = c := by
  have e : ((0 : Int32) &&& 31) = 0 := by decide
  rw [e]
  apply Int32.toBitVec_inj.mp
  rw [Int32.toBitVec_shiftRight]
  have e1 : ((0 : Int32).toBitVec.smod 32) = 0#32 := by decide
  rw [e1, BitVec.sshiftRight_eq']
  exact BitVec.sshiftRight_zero
theorem lo8_and (x : Int32) : (lo8 x &&& 255).toBitVec.toNat = x.toBitVec.toNat % 256 := by
  have h : (lo8 x).toBitVec = (x.toBitVec.signExtend 8).signExtend 32 := by rw [lo8, Int8.toBitVec_toInt32, Int32.toBitVec_toInt8]
  rw [Int32.toBitVec_and, BitVec.toNat_and, h]
  have e : ((x.toBitVec.signExtend 8).signExtend 32).toNat % 256 = x.toBitVec.toNat % 256 := by
    rw [BitVec.toNat_signExtend]
    have hlt := x.toBitVec.isLt
    simp only [BitVec.toNat_setWidth, BitVec.toNat_signExtend]
    split <;> split <;> omega
  rw [← e]
  exact Nat.and_two_pow_sub_one_eq_mod _ 8
theorem pair_says {c : Int32} (h0 : ¬ c < 0) (h1 : ¬ 65535 < c) : pairCh (lo8 c) (hi8 c) = c := by
  rw [Int32.lt_iff_toInt_lt] at h0 h1
  have e0 : (0 : Int32).toInt = 0 := rfl
  have e1 : (65535 : Int32).toInt = 65535 := rfl
  have hc : c.toInt = c.toBitVec.toNat := by
    have := c.toBitVec.isLt
    have e : c.toInt = c.toBitVec.toInt := rfl
    rw [e] at h0 h1
    rw [e]
    rw [BitVec.toInt_eq_toNat_cond] at h0 h1 ⊢
    split at h0 <;> split <;> omega
  have hn : c.toBitVec.toNat < 65536 := by omega
  have a1 := lo8_and c
  have a2 : (hi8 c &&& 255).toBitVec.toNat = c.toBitVec.toNat / 256 := by
    rw [hi8, lo8_and]
    have e : ((8 : Int32) &&& 31) = 8 := by decide
    rw [e, Int32.toBitVec_shiftRight]
    have e2 : ((8 : Int32).toBitVec.smod 32) = 8#32 := by decide
    rw [e2, BitVec.sshiftRight_eq', BitVec.toNat_sshiftRight_of_msb_false (by rw [BitVec.msb_eq_false_iff_two_mul_lt]; omega)]
    show c.toBitVec.toNat >>> 8 % 256 = _
    rw [Nat.shiftRight_eq_div_pow]
    omega
  unfold pairCh
  apply Int32.toBitVec_inj.mp
  apply BitVec.eq_of_toNat_eq
  have f0 : ((0 : Int32) &&& 31) = 0 := by decide
  have f8 : ((8 : Int32) &&& 31) = 8 := by decide
  rw [f0, f8]
  have g : (((lo8 c &&& 255) <<< (0 : Int32)) ||| ((hi8 c &&& 255) <<< (8 : Int32))).toBitVec.toNat = c.toBitVec.toNat := by
    rw [Int32.toBitVec_or, Int32.toBitVec_shiftLeft, Int32.toBitVec_shiftLeft]
    have s0 : ((0 : Int32).toBitVec.smod 32) = 0#32 := by decide
    have s8 : ((8 : Int32).toBitVec.smod 32) = 8#32 := by decide
    rw [s0, s8, BitVec.toNat_or]
    simp only [BitVec.shiftLeft_eq', BitVec.toNat_shiftLeft, a1, a2]
    show (c.toBitVec.toNat % 256) <<< 0 % 2 ^ 32 ||| (c.toBitVec.toNat / 256) <<< 8 % 2 ^ 32 = _
    rw [Nat.shiftLeft_zero, Nat.mod_eq_of_lt (show c.toBitVec.toNat % 256 < 2 ^ 32 by omega), Nat.mod_eq_of_lt (show (c.toBitVec.toNat / 256) <<< 8 < 2 ^ 32 by rw [Nat.shiftLeft_eq]; omega), Nat.or_comm, ← Nat.shiftLeft_add_eq_or_of_lt (by omega), Nat.shiftLeft_eq]
    omega
  show BitVec.toNat (((((lo8 c &&& 255) <<< (0 : Int32)) ||| ((hi8 c &&& 255) <<< (8 : Int32))).toBitVec.setWidth 16).setWidth 32) = _
  rw [BitVec.toNat_setWidth, BitVec.toNat_setWidth, g]
  omega
end StrChars
namespace StrChars
open Jvm Sem ClassFile Op Lib Jvm.Stand Jvm.Free.XT Jvm.Free.ALB Jvm.Free.JM Jvm.Free
open Jvm.Lib.Cold (StaticIs)
theorem shr1 {n : Nat} (h : 2 * n < 2 ^ 31) : Int32.ofNat (2 * n) >>> ((1 : Int32) &&& 31) = Int32.ofNat n := by
  have e : ((1 : Int32) &&& 31) = 1 := by decide
  rw [e]
  apply Int32.toBitVec_inj.mp
  rw [Int32.toBitVec_shiftRight]
  have e1 : ((1 : Int32).toBitVec.smod 32) = 1#32 := by decide
  have hm : (BitVec.ofNat 32 (2 * n)).toNat = 2 * n := by rw [BitVec.toNat_ofNat, Nat.mod_eq_of_lt (by omega)]
  rw [e1, BitVec.sshiftRight_eq']
  apply BitVec.eq_of_toNat_eq
  show ((BitVec.ofNat 32 (2 * n)).sshiftRight 1).toNat = (BitVec.ofNat 32 n).toNat
  rw [BitVec.toNat_sshiftRight_of_msb_false (by rw [BitVec.msb_eq_false_iff_two_mul_lt, hm]; omega), hm, BitVec.toNat_ofNat, Nat.shiftRight_eq_div_pow]
  omega
/-- charAt's cast of a byte read back -/
def chr8 (u : Int32) : Int32 := (u &&& 255).toUInt32.toUInt16.toUInt32.toInt32
theorem chr8_lo8 {c : Int32} (h0 : ¬ c < 0) (h1 : ¬ 255 < c) : chr8 (lo8 c) = c := by
  have t : ∀ k : Fin 256, (Int32.ofNat k.val).toUInt32.toUInt16.toUInt32.toInt32 = Int32.ofNat k.val := by decide +kernel
  unfold chr8
  rw [lo8_mask h0 h1]
  rw [Int32.lt_iff_toInt_lt] at h0 h1
  have e0 : (0 : Int32).toInt = 0 := rfl
  have e1 : (255 : Int32).toInt = 255 := rfl
  obtain ⟨k, hk⟩ : ∃ k : Nat, c.toInt = k := ⟨c.toInt.toNat, by omega⟩
  have hx : c = Int32.ofNat k := Int32.toInt_inj.mp (by rw [hk, Int32.toInt_ofNat_small (by omega)])
  rw [hx]
  exact t ⟨k, by omega⟩
theorem narrow_ch {c : Int32} (h0 : ¬ c < 0) (h1 : ¬ 65535 < c) : narrow .char (.int c) = .int c := by
  have q : narrow .char (.int (pairCh (lo8 c) (hi8 c))) = .int (pairCh (lo8 c) (hi8 c)) := narrow_c _
  rwa [pair_says h0 h1] at q
/-- the array's cell V codes the n chars f 0 .. f (n - 1) by the coder cd, as the JDK does: coder 1 just where some char is above 255 -/
def Cod (cd : Int32) (n : Nat) (f : Nat → Int32) (V : Cell) : Prop := (cd = 0 ∧ V.slots.size = n ∧ ∀ j, j < n → V.slots[j]? = some (.int (lo8 (f j))) ∧ ¬ 255 < f j) ∨ (cd = 1 ∧ V.slots.size = 2 * n ∧ (∀ j, j < n → V.slots[2 * j]? = some (.int (lo8 (f j))) ∧ V.slots[2 * j + 1]? = some (.int (hi8 (f j)))) ∧ ∃ j, j < n ∧ 255 < f j)
theorem Cod.cd {cd : Int32} {n : Nat} {f : Nat → Int32} {V : Cell} (h : Cod cd n f V) : cd = 0 ∨ cd = 1 := h.imp (fun q => q.1) fun q => q.1
theorem Cod.len {cd : Int32} {n : Nat} {f : Nat → Int32} {V : Cell} (h : Cod cd n f V) (hs : V.slots.size < 2 ^ 31) : Int32.ofNat V.slots.size >>> (cd &&& 31) = Int32.ofNat n := by
  rcases h with ⟨rfl, h, -⟩ | ⟨rfl, h, -⟩
  · rw [shr0, h]
  · rw [h, shr1 (by omega)]
/-- **x is a String of the n chars f 0 .. f (n - 1)**, Latin-1 or UTF-16; its array at t has the cell V -/
def Txt (x t : Addr) (V : Cell) (cd : Int32) (n : Nat) (f : Nat → Int32) (U : State) : Prop := Exact "java/lang/String" x U ∧ Has x "java/lang/String" "value" "[B" (.ref t) U ∧ Has x "java/lang/String" "coder" "B" (.int cd) U ∧ XT.Arr .byte t V U ∧ Cod cd n f V ∧ ∀ j, j < n → ¬ f j < 0 ∧ ¬ 65535 < f j
theorem Txt.mv {x t : Addr} {V : Cell} {cd : Int32} {n : Nat} {f : Nat → Int32} {U U' : State} (h : Txt x t V cd n f U) (hal : U.vm.Alike U'.vm) (hh : U'.heap = U.heap) : Txt x t V cd n f U' := ⟨h.1.mv hal hh, h.2.1.mv hal hh, h.2.2.1.mv hal hh, h.2.2.2.1.mv hal hh, h.2.2.2.2⟩
namespace Cdr
def yN : MethodName := ⟨"java/lang/String", "coder", "()B"⟩
abbrev yB : ByteArray := jdk_42_method_152_code
theorem d0 : decode yB 0 = .ok (.getstatic 38, 3) := by decide +kernel
theorem d3 : decode yB 3 = .ok (.ifCond (.eq) 10, 3) := by decide +kernel
theorem d6 : decode yB 6 = .ok (.aload_n 0, 1) := by decide +kernel
theorem d7 : decode yB 7 = .ok (.getfield 15, 3) := by decide +kernel
theorem d10 : decode yB 10 = .ok (.goto 4, 3) := by decide +kernel
theorem d14 : decode yB 14 = .ok (.ireturn, 1) := by decide +kernel
def site : List Cond := [.fieldLink "java/lang/String" 38 "java/lang/String" "COMPACT_STRINGS" "Z", .fieldLink "java/lang/String" 15 "java/lang/String" "coder" "B"]
def tab : Cond := tabOf yN yB 1 (some .byte) site
def P (x : Addr) (cd z : Int32) (args : Array Value) (s : State) : Prop := args = #[.ref x] ∧ Has x "java/lang/String" "coder" "B" (.int cd) s ∧ (cd = 0 ∨ cd = 1) ∧ StaticIs s "java/lang/String" "COMPACT_STRINGS" "Z" (.int z) ∧ ¬ z = 0
def E (cd : Int32) (r : Option Value) (s u : State) : Prop := XT.PureE (some (.int cd)) r s u
theorem law (l : Launch) (x : Addr) (cd z : Int32) : Law l yN 1 0 0 0 yB 1 (some .byte) site (P x cd z) (E cd) [] 0 0 := by
  refine Law.of_walk (plainFor_of_name (by decide +kernel)) (by decide +kernel) (by decide +kernel) (by decide) (fun _ _ h => by rw [h.1]; rfl) (fun _ U U' hal hh h => ⟨h.1, h.2.1.mv hal hh, h.2.2.1, h.2.2.2.1.there hal hh, h.2.2.2.2⟩) (fun r U U' V V' h1 hal h2 h => XT.PureE.mv r U U' V V' h1 hal h2 h) ?_
  intro p e s m args below meth c s₁ X0 hexec hbytes hml hret hlk hnm hown hh0 W hP
  obtain ⟨rfl, hx, hc, s1, hz⟩ := hP
  have c1 : Steps p.tables e below (s₁.setTop (entryFrame m #[.ref x] 1)) (s₁.setTop (mkF m 0 #[.val (.ref x)] [])) := entry rfl
  obtain ⟨T2, X2, q2, st2⟩ := X0.sget hexec hown (wk W (.fieldLink "java/lang/String" 38 "java/lang/String" "COMPACT_STRINGS" "Z")) s1 (fun _ _ h => by rw [hh0]; exact h) (g := (mkF m 0 #[.val (.ref x)] [])) rfl (hb hbytes d0)
  have hh2 := q2.trans hh0
  have c3 : Steps p.tables e below (s₁.setTop (entryFrame m #[.ref x] 1)) (T2.setTop (mkF m 7 #[.val (.ref x)] [.ref x])) := (c1.trans (st2 _ (Steps.refl _))).trans (by
    refine XS.ifNo X2.here hexec rfl (hb hbytes d3) rfl (i0_eq_f hz) ?_
    refine XS.aloadN X2.here hexec rfl (hb hbytes d6) rfl rfl ?_
    exact Steps.refl _)
  obtain ⟨T4, X4, q4, st4⟩ := X2.hget hexec hown (wk W (.fieldLink "java/lang/String" 15 "java/lang/String" "coder" "B")) (hx.mv X2.warmed.alike hh2) (g := (mkF m 7 #[.val (.ref x)] [.ref x])) rfl (rest := []) rfl (hb hbytes d7)
  have c5 : Steps p.tables e below (s₁.setTop (entryFrame m #[.ref x] 1)) (T4.setTop (mkF m 14 #[.val (.ref x)] [.int cd])) := (c3.trans (st4 _ (Steps.refl _))).trans (by
    refine XS.goto X4.here hexec rfl (pc0 := 10) rfl (hb hbytes d10) (by decide) rfl ?_
    exact Steps.refl _)
  exact ⟨T4, some (.int cd), _, _, _, X4, rfl, rfl, rfl, (fun h => by cases h), ⟨rfl, q4.trans hh2⟩, fun fs hl => c5.trans (X4.ireturnOut hexec hret (by rcases hc with rfl | rfl <;> rfl) (Or.inr (Or.inr (Or.inl rfl))) (hb hbytes d14) hl)⟩
end Cdr
namespace Len
def yN : MethodName := ⟨"java/lang/String", "length", "()I"⟩
abbrev yB : ByteArray := jdk_42_method_54_code
theorem d0 : decode yB 0 = .ok (.aload_n 0, 1) := by decide +kernel
theorem d1 : decode yB 1 = .ok (.getfield 9, 3) := by decide +kernel
theorem d4 : decode yB 4 = .ok (.arraylength, 1) := by decide +kernel
theorem d5 : decode yB 5 = .ok (.aload_n 0, 1) := by decide +kernel
theorem d6 : decode yB 6 = .ok (.invokevirtual 335, 3) := by decide +kernel
theorem d9 : decode yB 9 = .ok (.ishr, 1) := by decide +kernel
theorem d10 : decode yB 10 = .ok (.ireturn, 1) := by decide +kernel
def site : List Cond := [.fieldLink "java/lang/String" 9 "java/lang/String" "value" "[B", Cdr.tab] ++ virtW "java/lang/String" 335 "java/lang/String" Cdr.yN Cdr.yN
def tab : Cond := tabOf yN yB 1 (some .int) site
def P (x t : Addr) (V : Cell) (cd : Int32) (n : Nat) (f : Nat → Int32) (z : Int32) (args : Array Value) (s : State) : Prop := args = #[.ref x] ∧ Txt x t V cd n f s ∧ StaticIs s "java/lang/String" "COMPACT_STRINGS" "Z" (.int z) ∧ ¬ z = 0
def E (n : Nat) (r : Option Value) (s u : State) : Prop := XT.PureE (some (.int (Int32.ofNat n))) r s u
/-- length() of a String of n chars, in either coding -/
theorem law (l : Launch) (x t : Addr) (V : Cell) (cd : Int32) (n : Nat) (f : Nat → Int32) (z : Int32) : Law l yN 1 0 1 13 yB 1 (some .int) site (P x t V cd n f z) (E n) [] 0 0 := by
  refine Law.of_walk (plainFor_of_name (by decide +kernel)) (by decide +kernel) (by decide +kernel) (by decide) (fun _ _ h => by rw [h.1]; rfl) (fun _ U U' hal hh h => ⟨h.1, h.2.1.mv hal hh, h.2.2.1.there hal hh, h.2.2.2⟩) (fun r U U' V V' h1 hal h2 h => XT.PureE.mv r U U' V V' h1 hal h2 h) ?_
  intro p e s m args below meth c s₁ X0 hexec hbytes hml hret hlk hnm hown hh0 W hP
  obtain ⟨rfl, hx, s1, hz⟩ := hP
  have v31 := hx.2.2.2.1.2.2.2
  have c1 : Steps p.tables e below (s₁.setTop (entryFrame m #[.ref x] 1)) (s₁.setTop (mkF m 1 #[.val (.ref x)] [.ref x])) := Steps.trans (entry rfl) (by
    show Steps p.tables e below (s₁.setTop (mkF m 0 #[.val (.ref x)] [])) _
    refine XS.aloadN X0.here hexec rfl (hb hbytes d0) rfl rfl ?_
    exact Steps.refl _)
  obtain ⟨T2, X2, q2, st2⟩ := X0.hget hexec hown (wk W (.fieldLink "java/lang/String" 9 "java/lang/String" "value" "[B")) (hx.mv X0.warmed.alike hh0).2.1 (g := (mkF m 1 #[.val (.ref x)] [.ref x])) rfl (rest := []) rfl (hb hbytes d1)
  have hh2 := q2.trans hh0
  have hx2 := hx.mv X2.warmed.alike hh2
  have c3 : Steps p.tables e below (s₁.setTop (entryFrame m #[.ref x] 1)) (T2.setTop (mkF m 6 #[.val (.ref x)] [.ref x, .int (Int32.ofNat V.slots.size)])) := (c1.trans (st2 _ (Steps.refl _))).trans (by
    refine X2.alen hexec hx2.2.2.2.1 rfl rfl (hb hbytes d4) ?_
    refine XS.aloadN X2.here hexec rfl (hb hbytes d5) rfl rfl ?_
    exact Steps.refl _)
  obtain ⟨v4, T4, X4, E4, g4⟩ := X2.callV hexec (Cdr.law l x cd z) hown (wks W (virtW "java/lang/String" 335 "java/lang/String" Cdr.yN Cdr.yN)) rfl (by decide) (wk W Cdr.tab) (W := 1) (Nat.le_of_ble_eq_true rfl) (Nat.le_of_ble_eq_true rfl) (Nat.le_refl _) (Nat.le_refl _) (hx2.1.fc X2.warmed.alike) hx2.1.is (g := (mkF m 6 #[.val (.ref x)] [.ref x, .int (Int32.ofNat V.slots.size)])) rfl (by rw [hml]; rfl) c3 (argsL := []) (rest := [.int (Int32.ofNat V.slots.size)]) rfl rfl (by show 2 * 0 + (1 + 0) ≤ _; decide) (hb hbytes d6) (⟨rfl, hx2.2.2.1, hx.2.2.2.2.1.cd, s1.there X2.warmed.alike hh2, hz⟩)
  obtain ⟨rfl, q4⟩ := E4
  have c5 : Steps p.tables e below (s₁.setTop (entryFrame m #[.ref x] 1)) (T4.setTop (mkF m 10 #[.val (.ref x)] [.int (Int32.ofNat V.slots.size >>> (cd &&& 31))])) := Steps.trans g4 (by
    refine ishr X4.here hexec rfl (hb hbytes d9) rfl ?_
    exact Steps.refl _)
  rw [hx.2.2.2.2.1.len v31] at c5
  exact ⟨T4, some (.int (Int32.ofNat n)), _, _, _, X4, rfl, rfl, rfl, (fun h => by cases h), ⟨rfl, q4.trans hh2⟩, fun fs hl => c5.trans (X4.ireturnOut hexec hret rfl (Or.inl rfl) (hb hbytes d10) hl)⟩
theorem pays {l : Launch} {R : Room} {p : Program} {e : Env} {below : List Frame} {s : State} {sargs : Array Value} {len W : Nat} (x t : Addr) (V : Cell) (cd : Int32) (n : Nat) (f : Nat → Int32) (z : Int32) (htab : tab.before sargs s = true) (hfr : 2 ≤ R.frames) (hlo : W + 25 ≤ R.locals) :
    Back l R p e below s sargs yN len W (fun A₁ a₁ => A₁.cells + 0 ≤ R.cells ∧ A₁.slots + 0 ≤ R.slots ∧ P x t V cd n f z a₁ A₁.U) (fun A₁ _ v₁ B₁ => E n v₁ A₁.U B₁.U ∧ B₁.locs = A₁.locs ++ [] ∧ B₁.cells = A₁.cells + 0 ∧ B₁.slots = A₁.slots + 0) :=
  (law l x t V cd n f z).pays htab hfr (by omega)
end Len
namespace IsL
def yN : MethodName := ⟨"java/lang/String", "isLatin1", "()Z"⟩
abbrev yB : ByteArray := jdk_42_method_154_code
theorem d0 : decode yB 0 = .ok (.getstatic 38, 3) := by decide +kernel
theorem d3 : decode yB 3 = .ok (.ifCond (.eq) 14, 3) := by decide +kernel
theorem d6 : decode yB 6 = .ok (.aload_n 0, 1) := by decide +kernel
theorem d7 : decode yB 7 = .ok (.getfield 15, 3) := by decide +kernel
theorem d10 : decode yB 10 = .ok (.ifCond (.ne) 7, 3) := by decide +kernel
theorem d13 : decode yB 13 = .ok (.iconst 1, 1) := by decide +kernel
theorem d14 : decode yB 14 = .ok (.goto 4, 3) := by decide +kernel
theorem d17 : decode yB 17 = .ok (.iconst 0, 1) := by decide +kernel
theorem d18 : decode yB 18 = .ok (.ireturn, 1) := by decide +kernel
def site : List Cond := [.fieldLink "java/lang/String" 38 "java/lang/String" "COMPACT_STRINGS" "Z", .fieldLink "java/lang/String" 15 "java/lang/String" "coder" "B"]
def tab : Cond := tabOf yN yB 1 (some .boolean) site
def P (x : Addr) (cd z : Int32) (args : Array Value) (s : State) : Prop := args = #[.ref x] ∧ Has x "java/lang/String" "coder" "B" (.int cd) s ∧ (cd = 0 ∨ cd = 1) ∧ StaticIs s "java/lang/String" "COMPACT_STRINGS" "Z" (.int z) ∧ ¬ z = 0
def E (cd : Int32) (r : Option Value) (s u : State) : Prop := XT.PureE (some (.int (1 - cd))) r s u
theorem law (l : Launch) (x : Addr) (cd z : Int32) : Law l yN 1 0 0 0 yB 1 (some .boolean) site (P x cd z) (E cd) [] 0 0 := by
  refine Law.of_walk (plainFor_of_name (by decide +kernel)) (by decide +kernel) (by decide +kernel) (by decide) (fun _ _ h => by rw [h.1]; rfl) (fun _ U U' hal hh h => ⟨h.1, h.2.1.mv hal hh, h.2.2.1, h.2.2.2.1.there hal hh, h.2.2.2.2⟩) (fun r U U' V V' h1 hal h2 h => XT.PureE.mv r U U' V V' h1 hal h2 h) ?_
  intro p e s m args below meth c s₁ X0 hexec hbytes hml hret hlk hnm hown hh0 W hP
  obtain ⟨rfl, hx, hc, s1, hz⟩ := hP
  have c1 : Steps p.tables e below (s₁.setTop (entryFrame m #[.ref x] 1)) (s₁.setTop (mkF m 0 #[.val (.ref x)] [])) := entry rfl
  obtain ⟨T2, X2, q2, st2⟩ := X0.sget hexec hown (wk W (.fieldLink "java/lang/String" 38 "java/lang/String" "COMPACT_STRINGS" "Z")) s1 (fun _ _ h => by rw [hh0]; exact h) (g := (mkF m 0 #[.val (.ref x)] [])) rfl (hb hbytes d0)
  have hh2 := q2.trans hh0
  have c3 : Steps p.tables e below (s₁.setTop (entryFrame m #[.ref x] 1)) (T2.setTop (mkF m 7 #[.val (.ref x)] [.ref x])) := (c1.trans (st2 _ (Steps.refl _))).trans (by
    refine XS.ifNo X2.here hexec rfl (hb hbytes d3) rfl (i0_eq_f hz) ?_
    refine XS.aloadN X2.here hexec rfl (hb hbytes d6) rfl rfl ?_
    exact Steps.refl _)
  obtain ⟨T4, X4, q4, st4⟩ := X2.hget hexec hown (wk W (.fieldLink "java/lang/String" 15 "java/lang/String" "coder" "B")) (hx.mv X2.warmed.alike hh2) (g := (mkF m 7 #[.val (.ref x)] [.ref x])) rfl (rest := []) rfl (hb hbytes d7)
  have c5 : Steps p.tables e below (s₁.setTop (entryFrame m #[.ref x] 1)) (T4.setTop (mkF m 10 #[.val (.ref x)] [.int cd])) := c3.trans (st4 _ (Steps.refl _))
  have c6 : Steps p.tables e below (s₁.setTop (entryFrame m #[.ref x] 1)) (T4.setTop (mkF m 18 #[.val (.ref x)] [.int (1 - cd)])) := by
    rcases hc with rfl | rfl
    · exact c5.trans (by
        refine XS.ifNo X4.here hexec rfl (hb hbytes d10) rfl (i0_ne_f rfl) ?_
        refine iconstV X4.here hexec rfl 1 (hb hbytes d13) (by decide) ?_
        refine XS.goto X4.here hexec rfl (pc0 := 14) rfl (hb hbytes d14) (by decide) rfl ?_
        exact Steps.refl _)
    · exact c5.trans (by
        refine XS.ifYes X4.here hexec rfl (pc0 := 10) rfl (hb hbytes d10) rfl (i0_ne_t (by decide)) (by decide) rfl ?_
        refine iconstV X4.here hexec rfl 0 (hb hbytes d17) (by decide) ?_
        exact Steps.refl _)
  exact ⟨T4, some (.int (1 - cd)), _, _, _, X4, rfl, rfl, rfl, (fun h => by cases h), ⟨rfl, q4.trans hh2⟩, fun fs hl => c6.trans (X4.ireturnOut hexec hret (by rcases hc with rfl | rfl <;> rfl) (Or.inr (Or.inl rfl)) (hb hbytes d18) hl)⟩
end IsL
namespace LChA
def yN : MethodName := ⟨"java/lang/StringLatin1", "charAt", "([BI)C"⟩
abbrev yB : ByteArray := jdk_43_method_2_code
theorem d0 : decode yB 0 = .ok (.iload_n 1, 1) := by decide +kernel
theorem d1 : decode yB 1 = .ok (.aload_n 0, 1) := by decide +kernel
theorem d2 : decode yB 2 = .ok (.arraylength, 1) := by decide +kernel
theorem d3 : decode yB 3 = .ok (.invokestatic 9, 3) := by decide +kernel
theorem d6 : decode yB 6 = .ok (.aload_n 0, 1) := by decide +kernel
theorem d7 : decode yB 7 = .ok (.iload_n 1, 1) := by decide +kernel
theorem d8 : decode yB 8 = .ok (.baload, 1) := by decide +kernel
theorem d9 : decode yB 9 = .ok (.sipush 255, 3) := by decide +kernel
theorem d12 : decode yB 12 = .ok (.iand, 1) := by decide +kernel
theorem d13 : decode yB 13 = .ok (.i2c, 1) := by decide +kernel
theorem d14 : decode yB 14 = .ok (.ireturn, 1) := by decide +kernel
def site : List Cond := [JO.Str_checkIndex.tab] ++ staticW "java/lang/StringLatin1" 9 JO.Str_checkIndex.yN
def tab : Cond := tabOf yN yB 2 (some .char) site
def P (t : Addr) (V : Cell) (i : Nat) (u : Int32) (fm : Value) (args : Array Value) (s : State) : Prop := args = #[.ref t, .int (Int32.ofNat i)] ∧ XT.Arr .byte t V s ∧ V.slots[i]? = some (.int u) ∧ (StaticIs s "jdk/internal/util/Preconditions" "SIOOBE_FORMATTER" "Ljava/util/function/BiFunction;" fm ∧ fm.isRef = true)
def E (u : Int32) (r : Option Value) (s w : State) : Prop := XT.PureE (some (.int (chr8 u))) r s w
theorem law (l : Launch) (t : Addr) (V : Cell) (i : Nat) (u : Int32) (fm : Value) : Law l yN 2 2 2 27 yB 2 (some .char) site (P t V i u fm) (E u) [] 0 0 := by
  refine Law.of_walk (plainFor_of_name (by decide +kernel)) (by decide +kernel) (by decide +kernel) (by decide) (fun _ _ h => by rw [h.1]; rfl) (fun _ U U' hal hh h => ⟨h.1, h.2.1.mv hal hh, h.2.2.1, h.2.2.2.1.there hal hh, h.2.2.2.2⟩) (fun r U U' V V' h1 hal h2 h => XT.PureE.mv r U U' V V' h1 hal h2 h) ?_
  intro p e s m args below meth c s₁ X0 hexec hbytes hml hret hlk hnm hown hh0 W hP
  obtain ⟨rfl, hV, hu, s1, rf⟩ := hP
  have v31 := hV.2.2.2
  have hi : i < V.slots.size := (Array.getElem?_eq_some_iff.mp hu).1
  have c1 : Steps p.tables e below (s₁.setTop (entryFrame m #[.ref t, .int (Int32.ofNat i)] 2)) (s₁.setTop (mkF m 0 #[.val (.ref t), .val (.int (Int32.ofNat i))] [])) := entry rfl
  have c2 : Steps p.tables e below (s₁.setTop (entryFrame m #[.ref t, .int (Int32.ofNat i)] 2)) (s₁.setTop (mkF m 3 #[.val (.ref t), .val (.int (Int32.ofNat i))] [.int (Int32.ofNat V.slots.size), .int (Int32.ofNat i)])) := c1.trans (by
    refine XS.iloadN X0.here hexec rfl (hb hbytes d0) rfl ?_
    refine XS.aloadN X0.here hexec rfl (hb hbytes d1) rfl rfl ?_
    refine X0.alen hexec (hV.mv X0.warmed.alike hh0) rfl rfl (hb hbytes d2) ?_
    exact Steps.refl _)
  obtain ⟨v3, T3, X3, E3, g3⟩ := X0.callS hexec (JO.Str_checkIndex.law l (Int32.ofNat i) (Int32.ofNat V.slots.size) fm) hown (wks W (staticW "java/lang/StringLatin1" 9 JO.Str_checkIndex.yN)) (wk W JO.Str_checkIndex.tab) (W := 0) (Nat.le_of_ble_eq_true rfl) (Nat.le_of_ble_eq_true rfl) (Nat.le_refl _) (Nat.le_refl _) (g := (mkF m 3 #[.val (.ref t), .val (.int (Int32.ofNat i))] [.int (Int32.ofNat V.slots.size), .int (Int32.ofNat i)])) rfl (by rw [hml]; rfl) c2 (argsL := [.int (Int32.ofNat i), .int (Int32.ofNat V.slots.size)]) (rest := []) rfl rfl (by show 2 * 0 + 0 ≤ _; decide) (hb hbytes d3) (⟨rfl, rf, s1.there X0.warmed.alike hh0, Int32.ofNat_not_neg (by omega), lt32 v31 hi⟩)
  obtain ⟨rfl, q3⟩ := E3
  have hh3 := q3.trans hh0
  have c4 : Steps p.tables e below (s₁.setTop (entryFrame m #[.ref t, .int (Int32.ofNat i)] 2)) (T3.setTop (mkF m 14 #[.val (.ref t), .val (.int (Int32.ofNat i))] [.int (chr8 u)])) := Steps.trans g3 (by
    refine XS.aloadN X3.here hexec rfl (hb hbytes d6) rfl rfl ?_
    refine XS.iloadN X3.here hexec rfl (hb hbytes d7) rfl ?_
    refine X3.aget hexec (hV.mv X3.warmed.alike hh3) rfl hu rfl rfl (hb hbytes d8) ?_
    refine sipushV X3.here hexec rfl 255 (hb hbytes d9) (by decide) ?_
    refine XS.iand X3.here hexec rfl (hb hbytes d12) rfl ?_
    refine i2c X3.here hexec rfl (hb hbytes d13) rfl ?_
    exact Steps.refl _)
  exact ⟨T3, some (.int (chr8 u)), _, _, _, X3, rfl, rfl, rfl, (fun h => by cases h), ⟨rfl, hh3⟩, fun fs hl => c4.trans (X3.ireturnOut hexec hret (narrow_c _) (Or.inr (Or.inr (Or.inr (Or.inl rfl)))) (hb hbytes d14) hl)⟩
end LChA
end StrChars
namespace StrChars.Road
open Jvm Sem ClassFile Op Lib Jvm.Stand Jvm.Free Jvm.Free.XT
open Jvm.Lib.Cold (StaticIs)
theorem consq {a : Array Value} {s : State} {c : Jvm.Cond} {L : List Jvm.Cond} (h0 : c.before a s = true) (h : ∀ w ∈ L, w.before a s = true) : ∀ w ∈ c :: L, w.before a s = true := fun w hw => (List.mem_cons.mp hw).elim (fun e => e ▸ h0) (h w)
/-- the words of String.length(), either coding -/
abbrev wordsLen : List Jvm.Cond := [.code Len.yN Len.yB 1 (some .int), .initialized ST, .fieldLink ST 9 ST "value" "[B", .fieldLink ST 38 ST "COMPACT_STRINGS" "Z", .fieldLink ST 15 ST "coder" "B", .code Cdr.yN Cdr.yB 1 (some .byte), .methodLink ST 335 Cdr.yN, .declares Cdr.yN, .selects ST Cdr.yN Cdr.yN, .instanceMethod Cdr.yN]
theorem tabLen_of {a : Array Value} {s : State} (h : ∀ w ∈ wordsLen, w.before a s = true) : Len.tab.before a s = true := by
  have hc : Cdr.tab.before a s = true := unparts (wk h (.code Cdr.yN Cdr.yB 1 (some .byte))) (wks h (.initialized Cdr.yN.cls :: Cdr.site))
  have q := consq hc h
  exact unparts (wk q (.code Len.yN Len.yB 1 (some .int))) (wks q (.initialized Len.yN.cls :: Len.site))
theorem movedLen {Z s : State} {a0 args : Array Value} (hZ : Z.Warmed39 s.vm) (hw : ∀ d ∈ wordsLen, d.before a0 Z = true) : ∀ d ∈ wordsLen, d.before args s = true := fun d hd => by
  have q := hw d hd
  have t : ∀ d ∈ wordsLen, d = .arrayClass .byte ∨ (d.onTables && d.keepsFace) = true := by decide +kernel
  rcases t d hd with rfl | t
  · exact RoadKit.mvA hZ q
  · exact RoadKit.mv hZ q t
/-- the bytes of the chars cs, low before high -/
def wideBytes : List Int32 → List Value
  | [] => []
  | c :: cs => .int (lo8 c) :: .int (hi8 c) :: wideBytes cs
theorem wide_lo (d : Value) : ∀ (cs : List Int32) (j : Nat), j < cs.length → (wideBytes cs).getD (2 * j) d = .int (lo8 (cs.getD j 0))
  | [], j, h => absurd h (Nat.not_lt_zero j)
  | c :: cs, 0, _ => rfl
  | c :: cs, j + 1, h => by
    have q := wide_lo d cs j (by simpa using h)
    rw [show 2 * (j + 1) = 2 * j + 1 + 1 from by omega]
    simpa [wideBytes] using q
theorem wide_hi (d : Value) : ∀ (cs : List Int32) (j : Nat), j < cs.length → (wideBytes cs).getD (2 * j + 1) d = .int (hi8 (cs.getD j 0))
  | [], j, h => absurd h (Nat.not_lt_zero j)
  | c :: cs, 0, _ => rfl
  | c :: cs, j + 1, h => by
    have q := wide_hi d cs j (by simpa using h)
    rw [show 2 * (j + 1) + 1 = 2 * j + 1 + 1 + 1 from by omega]
    simpa [wideBytes] using q
theorem low_at (d : Value) (cs : List Int32) (j : Nat) (h : j < cs.length) : (cs.map fun c => Value.int (lo8 c)).getD j d = .int (lo8 (cs.getD j 0)) := by
  simp [List.getD_eq_getElem?_getD, h]
/-- an array of N2 bytes vs codes the chars cs by the coder cd -/
def CodA (cs : List Int32) (cd N2 : Int32) (vs : List Value) : Prop := (cd = 0 ∧ N2 = Int32.ofNat cs.length ∧ vs = (cs.map fun c => Value.int (lo8 c)) ∧ ∀ c ∈ cs, ¬ 255 < c) ∨ (cd = 1 ∧ N2 = Int32.ofNat (2 * cs.length) ∧ vs = wideBytes cs ∧ ∃ c ∈ cs, 255 < c)
theorem CodA.cod {cs : List Int32} {cd N2 : Int32} {vs : List Value} {V : Cell} (h : CodA cs cd N2 vs) (hn : 2 * cs.length < 2 ^ 31) (hs : V.slots.size = N2.toNatClampNeg) (hv : RoadKit.Has V vs (.int 0)) : Cod cd cs.length (fun j => cs.getD j 0) V := by
  rcases h with ⟨rfl, rfl, rfl, h⟩ | ⟨rfl, rfl, rfl, c, hc, hw⟩
  · rw [n32 (by omega)] at hs
    exact Or.inl ⟨rfl, hs, fun j hj => ⟨by rw [hv j (by omega), low_at _ _ _ hj], by
      have e : cs.getD j 0 = cs[j] := by simp [List.getD_eq_getElem?_getD, hj]
      show ¬ 255 < cs.getD j 0
      rw [e]; exact h _ (List.getElem_mem _)⟩⟩
  · rw [n32 (by omega)] at hs
    obtain ⟨j, hj, rfl⟩ := List.getElem_of_mem hc
    exact Or.inr ⟨rfl, hs, fun j hj => ⟨by rw [hv _ (by omega), wide_lo _ _ _ hj], by rw [hv _ (by omega), wide_hi _ _ _ hj]⟩, j, hj, by
      have e : cs.getD j 0 = cs[j] := by simp [List.getD_eq_getElem?_getD, hj]
      show 255 < cs.getD j 0
      rw [e]; exact hw⟩
/-- an object of exactly java/lang/String, its two fields found: as the laws ask it -/
theorem strObj {Z U : State} {a0 : Array Value} {kI : Nat} (wi : (Jvm.Cond.instantiable ST kI).before a0 Z = true) (al : Z.vm.Alike U.vm) {x : Addr} {v0 c0 : Value} (E : RoadKit.Exa Z U.heap x ST) (V : RoadKit.Fld Z U.heap x ST "value" "[B" v0) (C : RoadKit.Fld Z U.heap x ST "coder" "B" c0) :
    ∃ (D : Cell) (fV fC : Field), Blank ST x D U ∧ Found ST "value" "[B" fV U ∧ Found ST "coder" "B" fC U ∧ D.slots[fV.slot]? = some v0 ∧ D.slots[fC.slot]? = some c0 ∧ RoadKit.slotOf Z ST "value" "[B" = fV.slot ∧ RoadKit.slotOf Z ST "coder" "B" = fC.slot := by
  obtain ⟨D, cfV, kV, iV, fV, hD, gV, stV, knV, obV, asV, slV⟩ := V
  obtain ⟨D', cfC, kC, iC, fC, hD', gC, stC, -, -, asC, slC⟩ := C
  cases hD.symm.trans hD'
  obtain ⟨D2, kD, e1, e2, e3, e4, e5⟩ := E
  cases hD.symm.trans e1
  obtain ⟨c2, k2, i1, i2, i3, -⟩ := Cond.instantiable_spec wi
  cases e2.symm.trans i1
  cases e3.symm.trans i2
  obtain ⟨kU, u1, u2⟩ := al.2.2 _ _ e3
  exact ⟨D, fV, fC, ⟨hD, ⟨knV, fun q hq => by rw [hq] at obV; cases obV⟩, by rw [al.findClass]; exact e2, kU, u1, by rw [u2]; exact i3, by rw [u2]; exact e5 i3⟩, ⟨SBG.found_only al ⟨cfV, kV, iV, gV⟩, stV⟩, ⟨SBG.found_only al ⟨cfC, kC, iC, gC⟩, stC⟩, slV, slC, by simp [RoadKit.slotOf, gV], by simp [RoadKit.slotOf, gC]⟩
theorem sta_is {Z U : State} (al : Z.vm.Alike U.vm) {C n d : String} {v : Value} (S : RoadKit.Sta Z U.heap C n d v) : StaticIs U C n d v := by
  obtain ⟨cfS, iS, kS, fS, st, cS, t1, t2, t3, t4, t5, t6, t7⟩ := S
  exact StaticIs.there (s := { Z with heap := U.heap }) ⟨cfS, iS, kS, fS, st, cS, t1, t2, t3, t4, t5, (fun q => by rw [q] at t6; cases t6), t7⟩ al rfl
/-- **length() OF SUCH A STRING** -/
theorem lenW {p : Program} {l : Launch} {e : Env} {R : Room} {s : State} {args : Array Value} {below : List Frame} {len W : Nat} {Z : State} {a0 : Array Value} {h : Heap} (hZ : Z.Warmed39 s.vm) (hw : ∀ d ∈ wordsLen, d.before a0 Z = true) {kI : Nat} (wi : (Jvm.Cond.instantiable ST kI).before a0 Z = true)
    {x t : Addr} {kb : ClassId} {cs : List Int32} {cd N2 z : Int32} {vs : List Value} (E : RoadKit.Exa Z h x ST) (V : RoadKit.Fld Z h x ST "value" "[B" (.ref t)) (C : RoadKit.Fld Z h x ST "coder" "B" (.int cd)) (K : RoadKit.Arv Z h t kb .byte N2 vs (.int 0)) (hc : CodA cs cd N2 vs) (hb : ∀ c ∈ cs, ¬ c < 0 ∧ ¬ (65535 : Int32) < c)
    (S : RoadKit.Sta Z h ST "COMPACT_STRINGS" "Z" (.int z)) (hz : ¬ z = 0) (l2 : cs.length ≤ 4000) (hfr : 2 ≤ R.frames) (hlo : W + 25 ≤ R.locals) :
    Back l R p e below s args (⟨"java/lang/String", "length", "()I"⟩ : MethodName) len W (fun P a => a = #[.ref x] ∧ P.U.heap = h ∧ P.cells + 0 ≤ R.cells ∧ P.slots + 0 ≤ R.slots)
      (fun P _ v B => ∃ L, (v = some (.int (Int32.ofNat cs.length)) ∧ L = [] ∧ B.U.heap = h) ∧ B.locs = P.locs ++ L ∧ B.cells = P.cells + 0 ∧ B.slots = P.slots + 0) := by
  obtain ⟨A, K1, K2, K3, K4, K5, K6⟩ := K
  have hcod := hc.cod (by omega) K3 K5
  intro m meth c P g ig mk a X hg hsize hdg hW hn hp'
  obtain ⟨rfl, rfl, r1, r2⟩ := hp'
  have al : Z.vm.Alike P.U.vm := hZ.alike.trans X.warmed.alike
  obtain ⟨D, fV, fC, hB, F1, F2, g1, g2, -, -⟩ := strObj wi al E V C
  have hx : Txt x t A cd cs.length (fun j => cs.getD j 0) P.U := ⟨⟨_, hB.2.2.1, D, hB.1, rfl, by cases q : D.vm <;> first | rfl | exact absurd q (hB.2.1.2 _)⟩, Has.of hB F1 g1, Has.of hB F2 g2, ⟨K1.1, State.isArrayOf_alike al K1.2.1, K1.2.2, by rcases hcod with ⟨-, q, -⟩ | ⟨-, q, -⟩ <;> omega⟩, hcod, fun j hj => by
    have e : cs.getD j 0 = cs[j] := by simp [List.getD_eq_getElem?_getD, hj]
    show ¬ cs.getD j 0 < 0 ∧ ¬ 65535 < cs.getD j 0
    rw [e]; exact hb _ (List.getElem_mem _)⟩
  obtain ⟨v, B, X', ⟨⟨hv, hh⟩, hl, hk, hs⟩, st⟩ := Len.pays x t A cd cs.length (fun j => cs.getD j 0) z (tabLen_of (movedLen hZ hw)) hfr hlo m meth c P g ig mk _ X hg hsize hdg hW hn ⟨r1, r2, rfl, hx, sta_is al S, hz⟩
  exact ⟨v, B, X', ⟨[], ⟨hv, rfl, hh⟩, hl, hk, hs⟩, st⟩
end StrChars.Road
namespace StrChars.Road
open Jvm Sem ClassFile Op Lib Jvm.Stand Jvm.Free Jvm.Free.XT
open Jvm.Lib.Cold (StaticIs)
/-- the road's facts of a String, as the laws ask it -/
theorem txt_of {Z U : State} {a0 : Array Value} {kI : Nat} (wi : (Jvm.Cond.instantiable ST kI).before a0 Z = true) (al : Z.vm.Alike U.vm) {x t : Addr} {kb : ClassId} {cs : List Int32} {cd N2 : Int32} {vs : List Value} (E : RoadKit.Exa Z U.heap x ST) (V : RoadKit.Fld Z U.heap x ST "value" "[B" (.ref t)) (C : RoadKit.Fld Z U.heap x ST "coder" "B" (.int cd)) (K : RoadKit.Arv Z U.heap t kb .byte N2 vs (.int 0)) (hc : CodA cs cd N2 vs) (hb : ∀ c ∈ cs, ¬ c < 0 ∧ ¬ (65535 : Int32) < c) (l2 : cs.length ≤ 4000) :
    ∃ A, Txt x t A cd cs.length (fun j => cs.getD j 0) U := by
  obtain ⟨A, K1, K2, K3, K4, K5, K6⟩ := K
  have hcod := hc.cod (by omega) K3 K5
  obtain ⟨D, fV, fC, hB, F1, F2, g1, g2, -, -⟩ := strObj wi al E V C
  exact ⟨A, ⟨_, hB.2.2.1, D, hB.1, rfl, by cases q : D.vm <;> first | rfl | exact absurd q (hB.2.1.2 _)⟩, Has.of hB F1 g1, Has.of hB F2 g2, ⟨K1.1, State.isArrayOf_alike al K1.2.1, K1.2.2, by rcases hcod with ⟨-, q, -⟩ | ⟨-, q, -⟩ <;> omega⟩, hcod, fun j hj => by
    have e : cs.getD j 0 = cs[j] := by simp [List.getD_eq_getElem?_getD, hj]
    show ¬ cs.getD j 0 < 0 ∧ ¬ 65535 < cs.getD j 0
    rw [e]; exact hb _ (List.getElem_mem _)⟩
end StrChars.Road
namespace StrChars
open Jvm Sem ClassFile Op Lib Jvm.Stand Jvm.Free.XT Jvm.Free.ALB Jvm.Free.JM Jvm.Free
open Jvm.Lib.Cold (StaticIs)
namespace ChN
def yN : MethodName := ⟨"java/lang/String", "charAt", "(I)C"⟩
abbrev yB : ByteArray := jdk_42_method_56_code
theorem d0 : decode yB 0 = .ok (.aload_n 0, 1) := by decide +kernel
theorem d1 : decode yB 1 = .ok (.invokevirtual 492, 3) := by decide +kernel
theorem d4 : decode yB 4 = .ok (.ifCond (.eq) 12, 3) := by decide +kernel
theorem d7 : decode yB 7 = .ok (.aload_n 0, 1) := by decide +kernel
theorem d8 : decode yB 8 = .ok (.getfield 9, 3) := by decide +kernel
theorem d11 : decode yB 11 = .ok (.iload_n 1, 1) := by decide +kernel
theorem d12 : decode yB 12 = .ok (.invokestatic 495, 3) := by decide +kernel
theorem d15 : decode yB 15 = .ok (.ireturn, 1) := by decide +kernel
def site : List Cond := [.fieldLink "java/lang/String" 9 "java/lang/String" "value" "[B", IsL.tab, LChA.tab] ++ virtW "java/lang/String" 492 "java/lang/String" IsL.yN IsL.yN ++ staticW "java/lang/String" 495 LChA.yN
def tab : Cond := tabOf yN yB 2 (some .char) site
def P (x t : Addr) (V : Cell) (n : Nat) (f : Nat → Int32) (z : Int32) (fm : Value) (i : Nat) (args : Array Value) (s : State) : Prop := args = #[.ref x, .int (Int32.ofNat i)] ∧ Txt x t V 0 n f s ∧ i < n ∧ StaticIs s "java/lang/String" "COMPACT_STRINGS" "Z" (.int z) ∧ ¬ z = 0 ∧ StaticIs s "jdk/internal/util/Preconditions" "SIOOBE_FORMATTER" "Ljava/util/function/BiFunction;" fm ∧ fm.isRef = true
def E (f : Nat → Int32) (i : Nat) (r : Option Value) (s u : State) : Prop := XT.PureE (some (.int (f i))) r s u
/-- charAt(i) of a Latin-1 String of n chars, i < n: f i -/
theorem law (l : Launch) (x t : Addr) (V : Cell) (n : Nat) (f : Nat → Int32) (z : Int32) (fm : Value) (i : Nat) : Law l yN 2 1 3 40 yB 2 (some .char) site (P x t V n f z fm i) (E f i) [] 0 0 := by
  refine Law.of_walk (plainFor_of_name (by decide +kernel)) (by decide +kernel) (by decide +kernel) (by decide) (fun _ _ h => by rw [h.1]; rfl) (fun _ U U' hal hh h => ⟨h.1, h.2.1.mv hal hh, h.2.2.1, h.2.2.2.1.there hal hh, h.2.2.2.2.1, h.2.2.2.2.2.1.there hal hh, h.2.2.2.2.2.2⟩) (fun r U U' V V' h1 hal h2 h => XT.PureE.mv r U U' V V' h1 hal h2 h) ?_
  intro p e s m args below meth c s₁ X0 hexec hbytes hml hret hlk hnm hown hh0 W hP
  obtain ⟨rfl, hx, hi, s1, hz, s3, rf⟩ := hP
  have v31 := hx.2.2.2.1.2.2.2
  have hr := hx.2.2.2.2.2 i hi
  have hx0 := hx.mv X0.warmed.alike hh0
  have c1 : Steps p.tables e below (s₁.setTop (entryFrame m #[.ref x, .int (Int32.ofNat i)] 2)) (s₁.setTop (mkF m 1 #[.val (.ref x), .val (.int (Int32.ofNat i))] [.ref x])) := Steps.trans (entry rfl) (by
    show Steps p.tables e below (s₁.setTop (mkF m 0 #[.val (.ref x), .val (.int (Int32.ofNat i))] [])) _
    refine XS.aloadN X0.here hexec rfl (hb hbytes d0) rfl rfl ?_
    exact Steps.refl _)
  obtain ⟨v2, T2, X2, E2, g2⟩ := X0.callV hexec (IsL.law l x 0 z) hown (wks W (virtW "java/lang/String" 492 "java/lang/String" IsL.yN IsL.yN)) rfl (by decide) (wk W IsL.tab) (W := 0) (Nat.le_of_ble_eq_true rfl) (Nat.le_of_ble_eq_true rfl) (Nat.le_refl _) (Nat.le_refl _) (hx0.1.fc X0.warmed.alike) hx0.1.is (g := (mkF m 1 #[.val (.ref x), .val (.int (Int32.ofNat i))] [.ref x])) rfl (by rw [hml]; rfl) c1 (argsL := []) (rest := []) rfl rfl (by show 2 * 0 + 0 ≤ _; decide) (hb hbytes d1) (⟨rfl, hx0.2.2.1, hx.2.2.2.2.1.cd, s1.there X0.warmed.alike hh0, hz⟩)
  obtain ⟨rfl, q2⟩ := E2
  have hh2 := q2.trans hh0
  have hx2 := hx.mv X2.warmed.alike hh2
  obtain ⟨-, k1, k2⟩ | ⟨k0, -⟩ := hx.2.2.2.2.1
  · have c3 : Steps p.tables e below (s₁.setTop (entryFrame m #[.ref x, .int (Int32.ofNat i)] 2)) (T2.setTop (mkF m 8 #[.val (.ref x), .val (.int (Int32.ofNat i))] [.ref x])) := Steps.trans g2 (by
      refine XS.ifNo X2.here hexec rfl (hb hbytes d4) rfl (i0_eq_f (by decide)) ?_
      refine XS.aloadN X2.here hexec rfl (hb hbytes d7) rfl rfl ?_
      exact Steps.refl _)
    obtain ⟨T4, X4, q4, st4⟩ := X2.hget hexec hown (wk W (.fieldLink "java/lang/String" 9 "java/lang/String" "value" "[B")) hx2.2.1 (g := (mkF m 8 #[.val (.ref x), .val (.int (Int32.ofNat i))] [.ref x])) rfl (rest := []) rfl (hb hbytes d8)
    have hh4 := q4.trans hh2
    have c5 : Steps p.tables e below (s₁.setTop (entryFrame m #[.ref x, .int (Int32.ofNat i)] 2)) (T4.setTop (mkF m 12 #[.val (.ref x), .val (.int (Int32.ofNat i))] [.int (Int32.ofNat i), .ref t])) := (c3.trans (st4 _ (Steps.refl _))).trans (by
      refine XS.iloadN X4.here hexec rfl (hb hbytes d11) rfl ?_
      exact Steps.refl _)
    obtain ⟨v6, T6, X6, E6, g6⟩ := X4.callS hexec (LChA.law l t V i (lo8 (f i)) fm) hown (wks W (staticW "java/lang/String" 495 LChA.yN)) (wk W LChA.tab) (W := 0) (Nat.le_of_ble_eq_true rfl) (Nat.le_of_ble_eq_true rfl) (Nat.le_refl _) (Nat.le_refl _) (g := (mkF m 12 #[.val (.ref x), .val (.int (Int32.ofNat i))] [.int (Int32.ofNat i), .ref t])) rfl (by rw [hml]; rfl) c5 (argsL := [.ref t, .int (Int32.ofNat i)]) (rest := []) rfl rfl (by show 2 * 0 + 0 ≤ _; decide) (hb hbytes d12) (⟨rfl, hx.2.2.2.1.mv X4.warmed.alike hh4, (k2 i hi).1, s3.there X4.warmed.alike hh4, rf⟩)
    obtain ⟨rfl, q6⟩ := E6
    rw [chr8_lo8 hr.1 (k2 i hi).2] at g6
    exact ⟨T6, some (.int (f i)), _, _, _, X6, rfl, rfl, rfl, (fun h => by cases h), ⟨rfl, q6.trans hh4⟩, fun fs hl => Steps.trans g6 (X6.ireturnOut hexec hret (narrow_ch hr.1 hr.2) (Or.inr (Or.inr (Or.inr (Or.inl rfl)))) (hb hbytes d15) hl)⟩
  · exact absurd k0 (by decide)
theorem pays {l : Launch} {R : Room} {p : Program} {e : Env} {below : List Frame} {s : State} {sargs : Array Value} {len W : Nat} (x t : Addr) (V : Cell) (n : Nat) (f : Nat → Int32) (z : Int32) (fm : Value) (i : Nat) (htab : tab.before sargs s = true) (hfr : 4 ≤ R.frames) (hlo : W + 53 ≤ R.locals) :
    Back l R p e below s sargs yN len W (fun A₁ a₁ => A₁.cells + 0 ≤ R.cells ∧ A₁.slots + 0 ≤ R.slots ∧ P x t V n f z fm i a₁ A₁.U) (fun A₁ _ v₁ B₁ => E f i v₁ A₁.U B₁.U ∧ B₁.locs = A₁.locs ++ [] ∧ B₁.cells = A₁.cells + 0 ∧ B₁.slots = A₁.slots + 0) :=
  (law l x t V n f z fm i).pays htab hfr (by omega)
end ChN
end StrChars
namespace StrChars.Road
open Jvm Sem ClassFile Op Lib Jvm.Stand Jvm.Free Jvm.Free.XT
open Jvm.Lib.Cold (StaticIs)
/-- the words of String.charAt(int), the Latin-1 road alone -/
abbrev wordsChN : List Jvm.Cond := [.code ChN.yN ChN.yB 2 (some .char), .initialized ST, .fieldLink ST 9 ST "value" "[B", .fieldLink ST 38 ST "COMPACT_STRINGS" "Z", .fieldLink ST 15 ST "coder" "B", .code IsL.yN IsL.yB 1 (some .boolean), .methodLink ST 492 IsL.yN, .declares IsL.yN, .selects ST IsL.yN IsL.yN, .instanceMethod IsL.yN,
  .methodLink ST 495 LChA.yN, .static LChA.yN, .code LChA.yN LChA.yB 2 (some .char), .initialized "java/lang/StringLatin1", .methodLink "java/lang/StringLatin1" 9 JO.Str_checkIndex.yN, .static JO.Str_checkIndex.yN, .code JO.Str_checkIndex.yN JO.Str_checkIndex.yB 2 none,
  .fieldLink ST 1053 "jdk/internal/util/Preconditions" "SIOOBE_FORMATTER" "Ljava/util/function/BiFunction;", .methodLink ST 1059 JC.PreCheck.yN, .static JC.PreCheck.yN, .code JC.PreCheck.yN JC.PreCheck.yB 3 (some .int), .initialized "jdk/internal/util/Preconditions"]
theorem tabChN_of {a : Array Value} {s : State} (h : ∀ w ∈ wordsChN, w.before a s = true) : ChN.tab.before a s = true := by
  have hp : JC.PreCheck.tab.before a s = true := unparts (wk h (.code JC.PreCheck.yN JC.PreCheck.yB 3 (some .int))) (wks h (.initialized JC.PreCheck.yN.cls :: JC.PreCheck.site))
  have qk := consq hp h
  have hk : JO.Str_checkIndex.tab.before a s = true := unparts (wk qk (.code JO.Str_checkIndex.yN JO.Str_checkIndex.yB 2 none)) (wks qk (.initialized JO.Str_checkIndex.yN.cls :: JO.Str_checkIndex.site))
  have ql := consq hk h
  have hl : LChA.tab.before a s = true := unparts (wk ql (.code LChA.yN LChA.yB 2 (some .char))) (wks ql (.initialized LChA.yN.cls :: LChA.site))
  have hi : IsL.tab.before a s = true := unparts (wk h (.code IsL.yN IsL.yB 1 (some .boolean))) (wks h (.initialized IsL.yN.cls :: IsL.site))
  have q := consq hi (consq hl h)
  exact unparts (wk q (.code ChN.yN ChN.yB 2 (some .char))) (wks q (.initialized ChN.yN.cls :: ChN.site))
theorem movedChN {Z s : State} {a0 args : Array Value} (hZ : Z.Warmed39 s.vm) (hw : ∀ d ∈ wordsChN, d.before a0 Z = true) : ∀ d ∈ wordsChN, d.before args s = true := fun d hd => by
  have t : ∀ d ∈ wordsChN, (d.onTables && d.keepsFace) = true := by decide +kernel
  exact RoadKit.mv hZ (hw d hd) (t d hd)
/-- **charAt(i) OF A LATIN-1 STRING**, i < n: the char -/
theorem chN {p : Program} {l : Launch} {e : Env} {R : Room} {s : State} {args : Array Value} {below : List Frame} {len W : Nat} {Z : State} {a0 : Array Value} {h : Heap} (hZ : Z.Warmed39 s.vm) (hw : ∀ d ∈ wordsChN, d.before a0 Z = true) {kI : Nat} (wi : (Jvm.Cond.instantiable ST kI).before a0 Z = true)
    {x t : Addr} {kb : ClassId} {cs : List Int32} {N2 z : Int32} {vs : List Value} {fm : Value} {i : Nat} {j : Int32} (E : RoadKit.Exa Z h x ST) (V : RoadKit.Fld Z h x ST "value" "[B" (.ref t)) (C : RoadKit.Fld Z h x ST "coder" "B" (.int 0)) (K : RoadKit.Arv Z h t kb .byte N2 vs (.int 0)) (hc : CodA cs 0 N2 vs) (hb : ∀ c ∈ cs, ¬ c < 0 ∧ ¬ (65535 : Int32) < c)
    (S : RoadKit.Sta Z h ST "COMPACT_STRINGS" "Z" (.int z)) (hz : ¬ z = 0) (F : RoadKit.Sta Z h "jdk/internal/util/Preconditions" "SIOOBE_FORMATTER" "Ljava/util/function/BiFunction;" fm) (rf : fm.isRef = true) (l2 : cs.length ≤ 4000) (hi : i < cs.length) (hj : j = Int32.ofNat i) (hfr : 4 ≤ R.frames) (hlo : W + 53 ≤ R.locals) :
    Back l R p e below s args (⟨"java/lang/String", "charAt", "(I)C"⟩ : MethodName) len W (fun P a => a = #[.ref x, .int j] ∧ P.U.heap = h ∧ P.cells + 0 ≤ R.cells ∧ P.slots + 0 ≤ R.slots)
      (fun P _ v B => ∃ L, (v = some (.int (cs.getD i 0)) ∧ L = [] ∧ B.U.heap = h) ∧ B.locs = P.locs ++ L ∧ B.cells = P.cells + 0 ∧ B.slots = P.slots + 0) := by
  subst hj
  intro m meth c P g ig mk a X hg hsize hdg hW hn hp'
  obtain ⟨rfl, rfl, r1, r2⟩ := hp'
  have al : Z.vm.Alike P.U.vm := hZ.alike.trans X.warmed.alike
  obtain ⟨A, hx⟩ := txt_of wi al E V C K hc hb l2
  obtain ⟨v, B, X', ⟨⟨hv, hh⟩, hl, hk, hs⟩, st⟩ := ChN.pays x t A cs.length (fun j => cs.getD j 0) z fm i (tabChN_of (movedChN hZ hw)) hfr hlo m meth c P g ig mk _ X hg hsize hdg hW hn ⟨r1, r2, rfl, hx, hi, sta_is al S, hz, sta_is al F, rf⟩
  exact ⟨v, B, X', ⟨[], ⟨hv, rfl, hh⟩, hl, hk, hs⟩, st⟩
/-- what backV says of its String, as the contracts of this text ask it: cs's low bytes, coder 0 -/
theorem codOf {cs : List Int32} {n : Nat} (hn : cs.length = n) (hb : ∀ c ∈ cs, ¬ 255 < c) : CodA cs 0 (Int32.ofNat n) ((cs.map lo8).map Value.int) := Or.inl ⟨rfl, by rw [hn], by simp [List.map_map, Function.comp_def], hb⟩
end StrChars.Road
end Jvm.Pilot.@@N@@

namespace Jvm.Pilot.@@N@@
open Jvm Jvm.ClassFile Sem Op Lib Jvm.Free Jvm.Stand Jvm.LawKit Jvm.RoadKit Bundle Jvm.Pilot.@@N@@.Jvm.D
def own_To (p : Program) (l : Launch) (e : Env) (R : Room) (s : State) (m : MethodId) (args : Array Value) (below : List Frame) (meth : Method) (c : Code) (locs : List Loc) (cells slots : Nat) (h : Heap) (T : State) (g g' : JFrame) : Prop :=
  ∃ T' : State, Stand p l e R s m args below meth c T' locs cells slots ∧ T'.heap = h ∧ ∀ tg, Steps p.tables e below (T'.setTop g') tg → Steps p.tables e below (T.setTop g) tg
theorem own_to {p : Program} {l : Launch} {e : Env} {R : Room} {s : State} {m : MethodId} {args : Array Value} {below : List Frame} {meth : Method} {c : Code} {T : State} {locs : List Loc} {cells slots : Nat} (X : Stand p l e R s m args below meth c T locs cells slots) {h : Heap} {g g' : JFrame}
    (H : own_To p l e R s m args below meth c locs cells slots h T g g') : ∃ T' : State, Stand p l e R s m args below meth c T' locs cells slots ∧ T'.heap = h ∧ ∀ tg, Steps p.tables e below (T'.setTop g') tg → Steps p.tables e below (T.setTop g) tg := H
def own_ToP (p : Program) (l : Launch) (e : Env) (R : Room) (s : State) (m : MethodId) (args : Array Value) (below : List Frame) (meth : Method) (c : Code) (locs : List Loc) (cells slots : Nat) (h : Heap) (T : State) (g : JFrame) (P : JFrame → Prop) : Prop :=
  ∃ (T' : State) (g' : JFrame), P g' ∧ Stand p l e R s m args below meth c T' locs cells slots ∧ T'.heap = h ∧ ∀ tg, Steps p.tables e below (T'.setTop g') tg → Steps p.tables e below (T.setTop g) tg
def own_ToK (p : Program) (l : Launch) (e : Env) (R : Room) (s : State) (m : MethodId) (args : Array Value) (below : List Frame) (meth : Method) (c : Code) (n0 : Nat) (cells slots : Nat) (T : State) (g : JFrame) (P : Heap → JFrame → Prop) : Prop :=
  ∃ (T' : State) (g' : JFrame) (L : List Loc), Stand p l e R s m args below meth c T' L cells slots ∧ Fr n0 L ∧ P T'.heap g' ∧ ∀ tg, Steps p.tables e below (T'.setTop g') tg → Steps p.tables e below (T.setTop g) tg
theorem own_wid {p : Program} {l : Launch} {e : Env} {R : Room} {s : State} {m : MethodId} {args : Array Value} {below : List Frame} {meth : Method} {c : Code} {T : State} {locs : List Loc} {cells slots cells' slots' : Nat} (X : Stand p l e R s m args below meth c T locs cells slots) (h1 : cells ≤ cells') (h2 : slots ≤ slots') : Stand p l e R s m args below meth c T locs cells' slots' := { X with same := X.same.mono h1 h2 }
theorem own_inc (i : Nat) : Int32.ofNat i + (1 : Int32) = Int32.ofNat (i + 1) := (Int32.ofNat_add i 1).symm
theorem own_toI {i : Nat} (h : i < 2147483648) : (Int32.ofNat i).toInt = (i : Int) := Int32.toInt_ofNat_of_lt h
theorem own_lt {i j : Nat} (h : i < j) (hj : j < 2147483648) : Int32.ofNat i < Int32.ofNat j := by
  rw [Int32.lt_iff_toInt_lt, own_toI (by omega), own_toI hj]; omega
theorem own_nlt {i j : Nat} (h : ¬ i < j) (hi : i < 2147483648) : ¬ Int32.ofNat i < Int32.ofNat j := by
  rw [Int32.lt_iff_toInt_lt, own_toI hi, own_toI (by omega)]; omega
theorem own_ltI {i j : Nat} (h : Int32.ofNat i < Int32.ofNat j) (hi : i < 2147483648) (hj : j < 2147483648) : i < j := by
  rw [Int32.lt_iff_toInt_lt, own_toI hi, own_toI hj] at h; omega
theorem own_nltI {i j : Nat} (h : ¬ Int32.ofNat i < Int32.ofNat j) (hi : i < 2147483648) (hj : j < 2147483648) : ¬ i < j := by
  rw [Int32.lt_iff_toInt_lt, own_toI hi, own_toI hj] at h; omega
theorem own_inj {i j : Nat} (h : Int32.ofNat i = Int32.ofNat j) (hi : i < 2147483648) (hj : j < 2147483648) : i = j := by
  have q := congrArg Int32.toInt h
  rw [own_toI hi, own_toI hj] at q; omega
theorem own_nneg (i : Nat) (hi : i < 2147483648) : ¬ Int32.ofNat i < 0 := by
  rw [Int32.lt_iff_toInt_lt, own_toI hi]; show ¬ (i : Int) < 0; omega
theorem own_clamp {i : Nat} (hi : i < 2147483648) : (Int32.ofNat i).toNatClampNeg = i := clamp_of rfl hi
theorem own_narm (x : Int32) : nar .char (x &&& (255 : Int32)) = (x &&& (255 : Int32)) := i2c_mask x
theorem own_osz {Z : State} {n0 : Nat} {h : Heap} (O : Old Z n0 h) : n0 ≤ h.size := O.1 ▸ O.2.1
theorem pn_0 : plainName "java/lang/StringLatin1" = true := by first | (simp [plainName, overriddenIn]; done) | decide +kernel
theorem pn_1 : plainName "java/lang/String" = true := by first | (simp [plainName, overriddenIn]; done) | decide +kernel
theorem pn_2 : plainName "java/util/Arrays" = true := by first | (simp [plainName, overriddenIn]; done) | decide +kernel
theorem pn_3 : plainName "jdk/internal/util/Preconditions" = true := by first | (simp [plainName, overriddenIn]; done) | decide +kernel
theorem pn_4 : plainName "com/example/ullr/ullr/files/ListedFileNamePinLaw" = true := by first | (simp [plainName, overriddenIn]; done) | decide +kernel
theorem pn_5 : plainName "java/util/Objects" = true := by first | (simp [plainName, overriddenIn]; done) | decide +kernel
theorem pn_6 : plainName "com/example/ullr/ullr/files/ListedFile" = true := by first | (simp [plainName, overriddenIn]; done) | decide +kernel
theorem pd_0 : parseMethodDescriptor "([CIILjava/lang/Void;)V" = some ⟨[(.array .char), .int, .int, (.object "java/lang/Void")], none⟩ := by decide +kernel
theorem pd_1 : parseMethodDescriptor "(I)Z" = some ⟨[.int], some .boolean⟩ := by decide +kernel
theorem pd_2 : parseMethodDescriptor "(II)I" = some ⟨[.int, .int], some .int⟩ := by decide +kernel
theorem pd_3 : parseMethodDescriptor "()Z" = some ⟨[], some .boolean⟩ := by decide +kernel
theorem pd_4 : parseMethodDescriptor "([BII)I" = some ⟨[(.array .byte), .int, .int], some .int⟩ := by decide +kernel
theorem pd_5 : parseMethodDescriptor "()I" = some ⟨[], some .int⟩ := by decide +kernel
theorem pd_6 : parseMethodDescriptor "(II)V" = some ⟨[.int, .int], none⟩ := by decide +kernel
theorem pd_7 : parseMethodDescriptor "([BII)[B" = some ⟨[(.array .byte), .int, .int], some (.array .byte)⟩ := by decide +kernel
theorem pd_8 : parseMethodDescriptor "([BB)V" = some ⟨[(.array .byte), .byte], none⟩ := by decide +kernel
theorem pd_9 : parseMethodDescriptor "(IIILjava/util/function/BiFunction;)I" = some ⟨[.int, .int, .int, (.object "java/util/function/BiFunction")], some .int⟩ := by decide +kernel
theorem pd_10 : parseMethodDescriptor "(III)V" = some ⟨[.int, .int, .int], none⟩ := by decide +kernel
theorem pd_11 : parseMethodDescriptor "([BII)Ljava/lang/String;" = some ⟨[(.array .byte), .int, .int], some (.object "java/lang/String")⟩ := by decide +kernel
theorem pd_12 : parseMethodDescriptor "(II)Ljava/lang/String;" = some ⟨[.int, .int], some (.object "java/lang/String")⟩ := by decide +kernel
theorem pd_13 : parseMethodDescriptor "(Ljava/lang/Object;Ljava/lang/String;)Ljava/lang/Object;" = some ⟨[(.object "java/lang/Object"), (.object "java/lang/String")], some (.object "java/lang/Object")⟩ := by decide +kernel
theorem pd_14 : parseMethodDescriptor "(I)I" = some ⟨[.int], some .int⟩ := by decide +kernel
theorem pd_15 : parseMethodDescriptor "(I)Ljava/lang/String;" = some ⟨[.int], some (.object "java/lang/String")⟩ := by decide +kernel
theorem pd_16 : parseMethodDescriptor "(I)C" = some ⟨[.int], some .char⟩ := by decide +kernel
theorem pd_17 : parseMethodDescriptor "([C)V" = some ⟨[(.array .char)], none⟩ := by decide +kernel
theorem pd_18 : parseMethodDescriptor "(Ljava/lang/String;J)V" = some ⟨[(.object "java/lang/String"), .long], none⟩ := by decide +kernel
theorem pd_19 : parseMethodDescriptor "()Ljava/lang/String;" = some ⟨[], some (.object "java/lang/String")⟩ := by decide +kernel
theorem pd_20 : parseMethodDescriptor "(Ljava/lang/String;[CIII)Z" = some ⟨[(.object "java/lang/String"), (.array .char), .int, .int, .int], some .boolean⟩ := by decide +kernel
theorem d_jdk_29_method_69_0 : decode jdk_29_method_69_code 0 = .ok (.iload_n 0, 1) := by decide +kernel
theorem d_jdk_29_method_69_1 : decode jdk_29_method_69_code 1 = .ok (.iload_n 1, 1) := by decide +kernel
theorem d_jdk_29_method_69_10 : decode jdk_29_method_69_code 10 = .ok (.ireturn, 1) := by decide +kernel
theorem d_jdk_29_method_69_2 : decode jdk_29_method_69_code 2 = .ok (.if_icmp .gt 7, 3) := by decide +kernel
theorem d_jdk_29_method_69_5 : decode jdk_29_method_69_code 5 = .ok (.iload_n 0, 1) := by decide +kernel
theorem d_jdk_29_method_69_6 : decode jdk_29_method_69_code 6 = .ok (.goto 4, 3) := by decide +kernel
theorem d_jdk_29_method_69_9 : decode jdk_29_method_69_code 9 = .ok (.iload_n 1, 1) := by decide +kernel
theorem d_jdk_31_method_11_0 : decode jdk_31_method_11_code 0 = .ok (.aload_n 0, 1) := by decide +kernel
theorem d_jdk_31_method_11_1 : decode jdk_31_method_11_code 1 = .ok (.ifnonnull 12, 3) := by decide +kernel
theorem d_jdk_31_method_11_13 : decode jdk_31_method_11_code 13 = .ok (.aload_n 0, 1) := by decide +kernel
theorem d_jdk_31_method_11_14 : decode jdk_31_method_11_code 14 = .ok (.areturn, 1) := by decide +kernel
theorem d_jdk_41_method_12_0 : decode jdk_41_method_12_code 0 = .ok (.iload_n 0, 1) := by decide +kernel
theorem d_jdk_41_method_12_1 : decode jdk_41_method_12_code 1 = .ok (.ifCond .lt 13, 3) := by decide +kernel
theorem d_jdk_41_method_12_10 : decode jdk_41_method_12_code 10 = .ok (.iload_n 2, 1) := by decide +kernel
theorem d_jdk_41_method_12_11 : decode jdk_41_method_12_code 11 = .ok (.if_icmp .le 11, 3) := by decide +kernel
theorem d_jdk_41_method_12_22 : decode jdk_41_method_12_code 22 = .ok (.iload_n 0, 1) := by decide +kernel
theorem d_jdk_41_method_12_23 : decode jdk_41_method_12_code 23 = .ok (.ireturn, 1) := by decide +kernel
theorem d_jdk_41_method_12_4 : decode jdk_41_method_12_code 4 = .ok (.iload_n 0, 1) := by decide +kernel
theorem d_jdk_41_method_12_5 : decode jdk_41_method_12_code 5 = .ok (.iload_n 1, 1) := by decide +kernel
theorem d_jdk_41_method_12_6 : decode jdk_41_method_12_code 6 = .ok (.if_icmp .gt 8, 3) := by decide +kernel
theorem d_jdk_41_method_12_9 : decode jdk_41_method_12_code 9 = .ok (.iload_n 1, 1) := by decide +kernel
theorem d_jdk_42_method_149_0 : decode jdk_42_method_149_code 0 = .ok (.aload_n 0, 1) := by decide +kernel
theorem d_jdk_42_method_149_1 : decode jdk_42_method_149_code 1 = .ok (.invokespecial 1, 3) := by decide +kernel
theorem d_jdk_42_method_149_11 : decode jdk_42_method_149_code 11 = .ok (.getfield 9, 3) := by decide +kernel
theorem d_jdk_42_method_149_14 : decode jdk_42_method_149_code 14 = .ok (.putfield 9, 3) := by decide +kernel
theorem d_jdk_42_method_149_17 : decode jdk_42_method_149_code 17 = .ok (.aload_n 0, 1) := by decide +kernel
theorem d_jdk_42_method_149_18 : decode jdk_42_method_149_code 18 = .ok (.ldc 7, 2) := by decide +kernel
theorem d_jdk_42_method_149_20 : decode jdk_42_method_149_code 20 = .ok (.getfield 15, 3) := by decide +kernel
theorem d_jdk_42_method_149_23 : decode jdk_42_method_149_code 23 = .ok (.putfield 15, 3) := by decide +kernel
theorem d_jdk_42_method_149_26 : decode jdk_42_method_149_code 26 = .ok (.return_, 1) := by decide +kernel
theorem d_jdk_42_method_149_4 : decode jdk_42_method_149_code 4 = .ok (.iload_n 3, 1) := by decide +kernel
theorem d_jdk_42_method_149_5 : decode jdk_42_method_149_code 5 = .ok (.ifCond .ne 22, 3) := by decide +kernel
theorem d_jdk_42_method_149_8 : decode jdk_42_method_149_code 8 = .ok (.aload_n 0, 1) := by decide +kernel
theorem d_jdk_42_method_149_9 : decode jdk_42_method_149_code 9 = .ok (.ldc 7, 2) := by decide +kernel
theorem d_jdk_42_method_151_0 : decode jdk_42_method_151_code 0 = .ok (.aload_n 0, 1) := by decide +kernel
theorem d_jdk_42_method_151_1 : decode jdk_42_method_151_code 1 = .ok (.invokespecial 1, 3) := by decide +kernel
theorem d_jdk_42_method_151_10 : decode jdk_42_method_151_code 10 = .ok (.iload_n 2, 1) := by decide +kernel
theorem d_jdk_42_method_151_11 : decode jdk_42_method_151_code 11 = .ok (.putfield 15, 3) := by decide +kernel
theorem d_jdk_42_method_151_14 : decode jdk_42_method_151_code 14 = .ok (.return_, 1) := by decide +kernel
theorem d_jdk_42_method_151_4 : decode jdk_42_method_151_code 4 = .ok (.aload_n 0, 1) := by decide +kernel
theorem d_jdk_42_method_151_5 : decode jdk_42_method_151_code 5 = .ok (.aload_n 1, 1) := by decide +kernel
theorem d_jdk_42_method_151_6 : decode jdk_42_method_151_code 6 = .ok (.putfield 9, 3) := by decide +kernel
theorem d_jdk_42_method_151_9 : decode jdk_42_method_151_code 9 = .ok (.aload_n 0, 1) := by decide +kernel
theorem d_jdk_42_method_154_0 : decode jdk_42_method_154_code 0 = .ok (.getstatic 38, 3) := by decide +kernel
theorem d_jdk_42_method_154_10 : decode jdk_42_method_154_code 10 = .ok (.ifCond .ne 7, 3) := by decide +kernel
theorem d_jdk_42_method_154_13 : decode jdk_42_method_154_code 13 = .ok (.iconst 1, 1) := by decide +kernel
theorem d_jdk_42_method_154_14 : decode jdk_42_method_154_code 14 = .ok (.goto 4, 3) := by decide +kernel
theorem d_jdk_42_method_154_18 : decode jdk_42_method_154_code 18 = .ok (.ireturn, 1) := by decide +kernel
theorem d_jdk_42_method_154_3 : decode jdk_42_method_154_code 3 = .ok (.ifCond .eq 14, 3) := by decide +kernel
theorem d_jdk_42_method_154_6 : decode jdk_42_method_154_code 6 = .ok (.aload_n 0, 1) := by decide +kernel
theorem d_jdk_42_method_154_7 : decode jdk_42_method_154_code 7 = .ok (.getfield 15, 3) := by decide +kernel
theorem d_jdk_42_method_158_0 : decode jdk_42_method_158_code 0 = .ok (.iload_n 0, 1) := by decide +kernel
theorem d_jdk_42_method_158_1 : decode jdk_42_method_158_code 1 = .ok (.iload_n 1, 1) := by decide +kernel
theorem d_jdk_42_method_158_10 : decode jdk_42_method_158_code 10 = .ok (.return_, 1) := by decide +kernel
theorem d_jdk_42_method_158_2 : decode jdk_42_method_158_code 2 = .ok (.iload_n 2, 1) := by decide +kernel
theorem d_jdk_42_method_158_3 : decode jdk_42_method_158_code 3 = .ok (.getstatic 1053, 3) := by decide +kernel
theorem d_jdk_42_method_158_6 : decode jdk_42_method_158_code 6 = .ok (.invokestatic 1062, 3) := by decide +kernel
theorem d_jdk_42_method_158_9 : decode jdk_42_method_158_code 9 = .ok (.pop, 1) := by decide +kernel
theorem d_jdk_42_method_3_0 : decode jdk_42_method_3_code 0 = .ok (.aload_n 0, 1) := by decide +kernel
theorem d_jdk_42_method_3_1 : decode jdk_42_method_3_code 1 = .ok (.aload_n 1, 1) := by decide +kernel
theorem d_jdk_42_method_3_2 : decode jdk_42_method_3_code 2 = .ok (.iconst 0, 1) := by decide +kernel
theorem d_jdk_42_method_3_3 : decode jdk_42_method_3_code 3 = .ok (.aload_n 1, 1) := by decide +kernel
theorem d_jdk_42_method_3_4 : decode jdk_42_method_3_code 4 = .ok (.arraylength, 1) := by decide +kernel
theorem d_jdk_42_method_3_5 : decode jdk_42_method_3_code 5 = .ok (.aconst_null, 1) := by decide +kernel
theorem d_jdk_42_method_3_6 : decode jdk_42_method_3_code 6 = .ok (.invokespecial 27, 3) := by decide +kernel
theorem d_jdk_42_method_3_9 : decode jdk_42_method_3_code 9 = .ok (.return_, 1) := by decide +kernel
theorem d_jdk_42_method_82_0 : decode jdk_42_method_82_code 0 = .ok (.aload_n 0, 1) := by decide +kernel
theorem d_jdk_42_method_82_1 : decode jdk_42_method_82_code 1 = .ok (.iload_n 1, 1) := by decide +kernel
theorem d_jdk_42_method_82_11 : decode jdk_42_method_82_code 11 = .ok (.ireturn, 1) := by decide +kernel
theorem d_jdk_42_method_82_2 : decode jdk_42_method_82_code 2 = .ok (.aload_n 0, 1) := by decide +kernel
theorem d_jdk_42_method_82_3 : decode jdk_42_method_82_code 3 = .ok (.invokevirtual 505, 3) := by decide +kernel
theorem d_jdk_42_method_82_6 : decode jdk_42_method_82_code 6 = .ok (.iconst 1, 1) := by decide +kernel
theorem d_jdk_42_method_82_7 : decode jdk_42_method_82_code 7 = .ok (.isub, 1) := by decide +kernel
theorem d_jdk_42_method_82_8 : decode jdk_42_method_82_code 8 = .ok (.invokevirtual 641, 3) := by decide +kernel
theorem d_jdk_42_method_83_0 : decode jdk_42_method_83_code 0 = .ok (.aload_n 0, 1) := by decide +kernel
theorem d_jdk_42_method_83_1 : decode jdk_42_method_83_code 1 = .ok (.invokevirtual 492, 3) := by decide +kernel
theorem d_jdk_42_method_83_11 : decode jdk_42_method_83_code 11 = .ok (.iload_n 1, 1) := by decide +kernel
theorem d_jdk_42_method_83_12 : decode jdk_42_method_83_code 12 = .ok (.iload_n 2, 1) := by decide +kernel
theorem d_jdk_42_method_83_13 : decode jdk_42_method_83_code 13 = .ok (.invokestatic 644, 3) := by decide +kernel
theorem d_jdk_42_method_83_16 : decode jdk_42_method_83_code 16 = .ok (.goto 12, 3) := by decide +kernel
theorem d_jdk_42_method_83_28 : decode jdk_42_method_83_code 28 = .ok (.ireturn, 1) := by decide +kernel
theorem d_jdk_42_method_83_4 : decode jdk_42_method_83_code 4 = .ok (.ifCond .eq 15, 3) := by decide +kernel
theorem d_jdk_42_method_83_7 : decode jdk_42_method_83_code 7 = .ok (.aload_n 0, 1) := by decide +kernel
theorem d_jdk_42_method_83_8 : decode jdk_42_method_83_code 8 = .ok (.getfield 9, 3) := by decide +kernel
theorem d_jdk_42_method_91_0 : decode jdk_42_method_91_code 0 = .ok (.aload_n 0, 1) := by decide +kernel
theorem d_jdk_42_method_91_1 : decode jdk_42_method_91_code 1 = .ok (.iload_n 1, 1) := by decide +kernel
theorem d_jdk_42_method_91_2 : decode jdk_42_method_91_code 2 = .ok (.aload_n 0, 1) := by decide +kernel
theorem d_jdk_42_method_91_3 : decode jdk_42_method_91_code 3 = .ok (.invokevirtual 505, 3) := by decide +kernel
theorem d_jdk_42_method_91_6 : decode jdk_42_method_91_code 6 = .ok (.invokevirtual 681, 3) := by decide +kernel
theorem d_jdk_42_method_91_9 : decode jdk_42_method_91_code 9 = .ok (.areturn, 1) := by decide +kernel
theorem d_jdk_42_method_92_0 : decode jdk_42_method_92_code 0 = .ok (.aload_n 0, 1) := by decide +kernel
theorem d_jdk_42_method_92_1 : decode jdk_42_method_92_code 1 = .ok (.invokevirtual 505, 3) := by decide +kernel
theorem d_jdk_42_method_92_11 : decode jdk_42_method_92_code 11 = .ok (.iload_n 1, 1) := by decide +kernel
theorem d_jdk_42_method_92_12 : decode jdk_42_method_92_code 12 = .ok (.ifCond .ne 10, 3) := by decide +kernel
theorem d_jdk_42_method_92_15 : decode jdk_42_method_92_code 15 = .ok (.iload_n 2, 1) := by decide +kernel
theorem d_jdk_42_method_92_16 : decode jdk_42_method_92_code 16 = .ok (.iload_n 3, 1) := by decide +kernel
theorem d_jdk_42_method_92_17 : decode jdk_42_method_92_code 17 = .ok (.if_icmp .ne 5, 3) := by decide +kernel
theorem d_jdk_42_method_92_20 : decode jdk_42_method_92_code 20 = .ok (.aload_n 0, 1) := by decide +kernel
theorem d_jdk_42_method_92_21 : decode jdk_42_method_92_code 21 = .ok (.areturn, 1) := by decide +kernel
theorem d_jdk_42_method_92_22 : decode jdk_42_method_92_code 22 = .ok (.iload_n 2, 1) := by decide +kernel
theorem d_jdk_42_method_92_23 : decode jdk_42_method_92_code 23 = .ok (.iload_n 1, 1) := by decide +kernel
theorem d_jdk_42_method_92_24 : decode jdk_42_method_92_code 24 = .ok (.isub, 1) := by decide +kernel
theorem d_jdk_42_method_92_25 : decode jdk_42_method_92_code 25 = .ok (.istore 4, 2) := by decide +kernel
theorem d_jdk_42_method_92_27 : decode jdk_42_method_92_code 27 = .ok (.aload_n 0, 1) := by decide +kernel
theorem d_jdk_42_method_92_28 : decode jdk_42_method_92_code 28 = .ok (.invokevirtual 492, 3) := by decide +kernel
theorem d_jdk_42_method_92_31 : decode jdk_42_method_92_code 31 = .ok (.ifCond .eq 16, 3) := by decide +kernel
theorem d_jdk_42_method_92_34 : decode jdk_42_method_92_code 34 = .ok (.aload_n 0, 1) := by decide +kernel
theorem d_jdk_42_method_92_35 : decode jdk_42_method_92_code 35 = .ok (.getfield 9, 3) := by decide +kernel
theorem d_jdk_42_method_92_38 : decode jdk_42_method_92_code 38 = .ok (.iload_n 1, 1) := by decide +kernel
theorem d_jdk_42_method_92_39 : decode jdk_42_method_92_code 39 = .ok (.iload 4, 2) := by decide +kernel
theorem d_jdk_42_method_92_4 : decode jdk_42_method_92_code 4 = .ok (.istore_n 3, 1) := by decide +kernel
theorem d_jdk_42_method_92_41 : decode jdk_42_method_92_code 41 = .ok (.invokestatic 685, 3) := by decide +kernel
theorem d_jdk_42_method_92_44 : decode jdk_42_method_92_code 44 = .ok (.goto 13, 3) := by decide +kernel
theorem d_jdk_42_method_92_5 : decode jdk_42_method_92_code 5 = .ok (.iload_n 1, 1) := by decide +kernel
theorem d_jdk_42_method_92_57 : decode jdk_42_method_92_code 57 = .ok (.areturn, 1) := by decide +kernel
theorem d_jdk_42_method_92_6 : decode jdk_42_method_92_code 6 = .ok (.iload_n 2, 1) := by decide +kernel
theorem d_jdk_42_method_92_7 : decode jdk_42_method_92_code 7 = .ok (.iload_n 3, 1) := by decide +kernel
theorem d_jdk_42_method_92_8 : decode jdk_42_method_92_code 8 = .ok (.invokestatic 521, 3) := by decide +kernel
theorem d_jdk_43_method_27_0 : decode jdk_43_method_27_code 0 = .ok (.iload_n 1, 1) := by decide +kernel
theorem d_jdk_43_method_27_1 : decode jdk_43_method_27_code 1 = .ok (.invokestatic 88, 3) := by decide +kernel
theorem d_jdk_43_method_27_10 : decode jdk_43_method_27_code 10 = .ok (.aload_n 0, 1) := by decide +kernel
theorem d_jdk_43_method_27_11 : decode jdk_43_method_27_code 11 = .ok (.arraylength, 1) := by decide +kernel
theorem d_jdk_43_method_27_12 : decode jdk_43_method_27_code 12 = .ok (.iconst 1, 1) := by decide +kernel
theorem d_jdk_43_method_27_13 : decode jdk_43_method_27_code 13 = .ok (.isub, 1) := by decide +kernel
theorem d_jdk_43_method_27_14 : decode jdk_43_method_27_code 14 = .ok (.invokestatic 38, 3) := by decide +kernel
theorem d_jdk_43_method_27_17 : decode jdk_43_method_27_code 17 = .ok (.istore_n 3, 1) := by decide +kernel
theorem d_jdk_43_method_27_18 : decode jdk_43_method_27_code 18 = .ok (.iload_n 3, 1) := by decide +kernel
theorem d_jdk_43_method_27_19 : decode jdk_43_method_27_code 19 = .ok (.ifCond .lt 19, 3) := by decide +kernel
theorem d_jdk_43_method_27_22 : decode jdk_43_method_27_code 22 = .ok (.aload_n 0, 1) := by decide +kernel
theorem d_jdk_43_method_27_23 : decode jdk_43_method_27_code 23 = .ok (.iload_n 3, 1) := by decide +kernel
theorem d_jdk_43_method_27_24 : decode jdk_43_method_27_code 24 = .ok (.baload, 1) := by decide +kernel
theorem d_jdk_43_method_27_25 : decode jdk_43_method_27_code 25 = .ok (.iload_n 1, 1) := by decide +kernel
theorem d_jdk_43_method_27_26 : decode jdk_43_method_27_code 26 = .ok (.i2b, 1) := by decide +kernel
theorem d_jdk_43_method_27_27 : decode jdk_43_method_27_code 27 = .ok (.if_icmp .ne 5, 3) := by decide +kernel
theorem d_jdk_43_method_27_30 : decode jdk_43_method_27_code 30 = .ok (.iload_n 3, 1) := by decide +kernel
theorem d_jdk_43_method_27_31 : decode jdk_43_method_27_code 31 = .ok (.ireturn, 1) := by decide +kernel
theorem d_jdk_43_method_27_32 : decode jdk_43_method_27_code 32 = .ok (.iinc 3 (-1), 3) := by decide +kernel
theorem d_jdk_43_method_27_35 : decode jdk_43_method_27_code 35 = .ok (.goto (-17), 3) := by decide +kernel
theorem d_jdk_43_method_27_38 : decode jdk_43_method_27_code 38 = .ok (.iconst (-1), 1) := by decide +kernel
theorem d_jdk_43_method_27_39 : decode jdk_43_method_27_code 39 = .ok (.ireturn, 1) := by decide +kernel
theorem d_jdk_43_method_27_4 : decode jdk_43_method_27_code 4 = .ok (.ifCond .ne 5, 3) := by decide +kernel
theorem d_jdk_43_method_27_9 : decode jdk_43_method_27_code 9 = .ok (.iload_n 2, 1) := by decide +kernel
theorem d_jdk_43_method_47_0 : decode jdk_43_method_47_code 0 = .ok (.iload_n 2, 1) := by decide +kernel
theorem d_jdk_43_method_47_1 : decode jdk_43_method_47_code 1 = .ok (.ifCond .ne 6, 3) := by decide +kernel
theorem d_jdk_43_method_47_10 : decode jdk_43_method_47_code 10 = .ok (.dup, 1) := by decide +kernel
theorem d_jdk_43_method_47_11 : decode jdk_43_method_47_code 11 = .ok (.aload_n 0, 1) := by decide +kernel
theorem d_jdk_43_method_47_12 : decode jdk_43_method_47_code 12 = .ok (.iload_n 1, 1) := by decide +kernel
theorem d_jdk_43_method_47_13 : decode jdk_43_method_47_code 13 = .ok (.iload_n 1, 1) := by decide +kernel
theorem d_jdk_43_method_47_14 : decode jdk_43_method_47_code 14 = .ok (.iload_n 2, 1) := by decide +kernel
theorem d_jdk_43_method_47_15 : decode jdk_43_method_47_code 15 = .ok (.iadd, 1) := by decide +kernel
theorem d_jdk_43_method_47_16 : decode jdk_43_method_47_code 16 = .ok (.invokestatic 232, 3) := by decide +kernel
theorem d_jdk_43_method_47_19 : decode jdk_43_method_47_code 19 = .ok (.iconst 0, 1) := by decide +kernel
theorem d_jdk_43_method_47_20 : decode jdk_43_method_47_code 20 = .ok (.invokespecial 112, 3) := by decide +kernel
theorem d_jdk_43_method_47_23 : decode jdk_43_method_47_code 23 = .ok (.areturn, 1) := by decide +kernel
theorem d_jdk_43_method_47_4 : decode jdk_43_method_47_code 4 = .ok (.ldc 151, 2) := by decide +kernel
theorem d_jdk_43_method_47_6 : decode jdk_43_method_47_code 6 = .ok (.areturn, 1) := by decide +kernel
theorem d_jdk_43_method_47_7 : decode jdk_43_method_47_code 7 = .ok (.new 1, 3) := by decide +kernel
theorem d_jdk_43_method_4_0 : decode jdk_43_method_4_code 0 = .ok (.iload_n 0, 1) := by decide +kernel
theorem d_jdk_43_method_4_1 : decode jdk_43_method_4_code 1 = .ok (.ifCond .lt 14, 3) := by decide +kernel
theorem d_jdk_43_method_4_11 : decode jdk_43_method_4_code 11 = .ok (.iconst 1, 1) := by decide +kernel
theorem d_jdk_43_method_4_12 : decode jdk_43_method_4_code 12 = .ok (.goto 4, 3) := by decide +kernel
theorem d_jdk_43_method_4_15 : decode jdk_43_method_4_code 15 = .ok (.iconst 0, 1) := by decide +kernel
theorem d_jdk_43_method_4_16 : decode jdk_43_method_4_code 16 = .ok (.ireturn, 1) := by decide +kernel
theorem d_jdk_43_method_4_4 : decode jdk_43_method_4_code 4 = .ok (.iload_n 0, 1) := by decide +kernel
theorem d_jdk_43_method_4_5 : decode jdk_43_method_4_code 5 = .ok (.sipush 255, 3) := by decide +kernel
theorem d_jdk_43_method_4_8 : decode jdk_43_method_4_code 8 = .ok (.if_icmp .gt 7, 3) := by decide +kernel
theorem d_jdk_65_method_131_0 : decode jdk_65_method_131_code 0 = .ok (.iload_n 1, 1) := by decide +kernel
theorem d_jdk_65_method_131_1 : decode jdk_65_method_131_code 1 = .ok (.iload_n 0, 1) := by decide +kernel
theorem d_jdk_65_method_131_2 : decode jdk_65_method_131_code 2 = .ok (.if_icmp .ge 35, 3) := by decide +kernel
theorem d_jdk_65_method_131_37 : decode jdk_65_method_131_code 37 = .ok (.return_, 1) := by decide +kernel
theorem d_jdk_65_method_132_0 : decode jdk_65_method_132_code 0 = .ok (.iload_n 1, 1) := by decide +kernel
theorem d_jdk_65_method_132_1 : decode jdk_65_method_132_code 1 = .ok (.ifCond .ne 9, 3) := by decide +kernel
theorem d_jdk_65_method_132_10 : decode jdk_65_method_132_code 10 = .ok (.aload_n 0, 1) := by decide +kernel
theorem d_jdk_65_method_132_11 : decode jdk_65_method_132_code 11 = .ok (.iload_n 1, 1) := by decide +kernel
theorem d_jdk_65_method_132_12 : decode jdk_65_method_132_code 12 = .ok (.iload_n 2, 1) := by decide +kernel
theorem d_jdk_65_method_132_13 : decode jdk_65_method_132_code 13 = .ok (.invokestatic 339, 3) := by decide +kernel
theorem d_jdk_65_method_132_16 : decode jdk_65_method_132_code 16 = .ok (.areturn, 1) := by decide +kernel
theorem d_jdk_65_method_133_0 : decode jdk_65_method_133_code 0 = .ok (.iload_n 1, 1) := by decide +kernel
theorem d_jdk_65_method_133_1 : decode jdk_65_method_133_code 1 = .ok (.iload_n 2, 1) := by decide +kernel
theorem d_jdk_65_method_133_10 : decode jdk_65_method_133_code 10 = .ok (.newarray .byte, 2) := by decide +kernel
theorem d_jdk_65_method_133_12 : decode jdk_65_method_133_code 12 = .ok (.astore 4, 2) := by decide +kernel
theorem d_jdk_65_method_133_14 : decode jdk_65_method_133_code 14 = .ok (.aload_n 0, 1) := by decide +kernel
theorem d_jdk_65_method_133_15 : decode jdk_65_method_133_code 15 = .ok (.iload_n 1, 1) := by decide +kernel
theorem d_jdk_65_method_133_16 : decode jdk_65_method_133_code 16 = .ok (.aload 4, 2) := by decide +kernel
theorem d_jdk_65_method_133_18 : decode jdk_65_method_133_code 18 = .ok (.iconst 0, 1) := by decide +kernel
theorem d_jdk_65_method_133_19 : decode jdk_65_method_133_code 19 = .ok (.aload_n 0, 1) := by decide +kernel
theorem d_jdk_65_method_133_2 : decode jdk_65_method_133_code 2 = .ok (.invokestatic 343, 3) := by decide +kernel
theorem d_jdk_65_method_133_20 : decode jdk_65_method_133_code 20 = .ok (.arraylength, 1) := by decide +kernel
theorem d_jdk_65_method_133_21 : decode jdk_65_method_133_code 21 = .ok (.iload_n 1, 1) := by decide +kernel
theorem d_jdk_65_method_133_22 : decode jdk_65_method_133_code 22 = .ok (.isub, 1) := by decide +kernel
theorem d_jdk_65_method_133_23 : decode jdk_65_method_133_code 23 = .ok (.iload_n 3, 1) := by decide +kernel
theorem d_jdk_65_method_133_24 : decode jdk_65_method_133_code 24 = .ok (.invokestatic 304, 3) := by decide +kernel
theorem d_jdk_65_method_133_27 : decode jdk_65_method_133_code 27 = .ok (.invokestatic 150, 3) := by decide +kernel
theorem d_jdk_65_method_133_30 : decode jdk_65_method_133_code 30 = .ok (.aload 4, 2) := by decide +kernel
theorem d_jdk_65_method_133_32 : decode jdk_65_method_133_code 32 = .ok (.areturn, 1) := by decide +kernel
theorem d_jdk_65_method_133_5 : decode jdk_65_method_133_code 5 = .ok (.iload_n 2, 1) := by decide +kernel
theorem d_jdk_65_method_133_6 : decode jdk_65_method_133_code 6 = .ok (.iload_n 1, 1) := by decide +kernel
theorem d_jdk_65_method_133_7 : decode jdk_65_method_133_code 7 = .ok (.isub, 1) := by decide +kernel
theorem d_jdk_65_method_133_8 : decode jdk_65_method_133_code 8 = .ok (.istore_n 3, 1) := by decide +kernel
theorem d_jdk_65_method_133_9 : decode jdk_65_method_133_code 9 = .ok (.iload_n 3, 1) := by decide +kernel
theorem d_method_2_0 : decode method_2_code 0 = .ok (.iload_n 0, 1) := by decide +kernel
theorem d_method_2_1 : decode method_2_code 1 = .ok (.iconst 1, 1) := by decide +kernel
theorem d_method_2_10 : decode method_2_code 10 = .ok (.iconst 1, 1) := by decide +kernel
theorem d_method_2_11 : decode method_2_code 11 = .ok (.iushr, 1) := by decide +kernel
theorem d_method_2_12 : decode method_2_code 12 = .ok (.sipush 255, 3) := by decide +kernel
theorem d_method_2_15 : decode method_2_code 15 = .ok (.iand, 1) := by decide +kernel
theorem d_method_2_16 : decode method_2_code 16 = .ok (.i2c, 1) := by decide +kernel
theorem d_method_2_17 : decode method_2_code 17 = .ok (.ireturn, 1) := by decide +kernel
theorem d_method_2_2 : decode method_2_code 2 = .ok (.iand, 1) := by decide +kernel
theorem d_method_2_3 : decode method_2_code 3 = .ok (.ifCond .ne 6, 3) := by decide +kernel
theorem d_method_2_6 : decode method_2_code 6 = .ok (.bipush 47, 2) := by decide +kernel
theorem d_method_2_8 : decode method_2_code 8 = .ok (.ireturn, 1) := by decide +kernel
theorem d_method_2_9 : decode method_2_code 9 = .ok (.iload_n 0, 1) := by decide +kernel
theorem d_method_3_0 : decode method_3_code 0 = .ok (.iload 4, 2) := by decide +kernel
theorem d_method_3_12 : decode method_3_code 12 = .ok (.iconst 1, 1) := by decide +kernel
theorem d_method_3_13 : decode method_3_code 13 = .ok (.ireturn, 1) := by decide +kernel
theorem d_method_3_14 : decode method_3_code 14 = .ok (.aload_n 0, 1) := by decide +kernel
theorem d_method_3_15 : decode method_3_code 15 = .ok (.iload 4, 2) := by decide +kernel
theorem d_method_3_17 : decode method_3_code 17 = .ok (.iload_n 2, 1) := by decide +kernel
theorem d_method_3_18 : decode method_3_code 18 = .ok (.isub, 1) := by decide +kernel
theorem d_method_3_19 : decode method_3_code 19 = .ok (.iconst 1, 1) := by decide +kernel
theorem d_method_3_2 : decode method_3_code 2 = .ok (.iload_n 2, 1) := by decide +kernel
theorem d_method_3_20 : decode method_3_code 20 = .ok (.isub, 1) := by decide +kernel
theorem d_method_3_21 : decode method_3_code 21 = .ok (.invokevirtual 7, 3) := by decide +kernel
theorem d_method_3_24 : decode method_3_code 24 = .ok (.aload_n 1, 1) := by decide +kernel
theorem d_method_3_25 : decode method_3_code 25 = .ok (.iload 4, 2) := by decide +kernel
theorem d_method_3_27 : decode method_3_code 27 = .ok (.caload, 1) := by decide +kernel
theorem d_method_3_28 : decode method_3_code 28 = .ok (.if_icmp .ne 7, 3) := by decide +kernel
theorem d_method_3_3 : decode method_3_code 3 = .ok (.if_icmp .le 9, 3) := by decide +kernel
theorem d_method_3_31 : decode method_3_code 31 = .ok (.iconst 1, 1) := by decide +kernel
theorem d_method_3_32 : decode method_3_code 32 = .ok (.goto 4, 3) := by decide +kernel
theorem d_method_3_36 : decode method_3_code 36 = .ok (.ireturn, 1) := by decide +kernel
theorem d_method_3_6 : decode method_3_code 6 = .ok (.iload 4, 2) := by decide +kernel
theorem d_method_3_8 : decode method_3_code 8 = .ok (.iload_n 3, 1) := by decide +kernel
theorem d_method_3_9 : decode method_3_code 9 = .ok (.if_icmp .lt 5, 3) := by decide +kernel
theorem d_prog_26_method_1_0 : decode prog_26_method_1_code 0 = .ok (.aload_n 0, 1) := by decide +kernel
theorem d_prog_26_method_1_1 : decode prog_26_method_1_code 1 = .ok (.invokespecial 1, 3) := by decide +kernel
theorem d_prog_26_method_1_11 : decode prog_26_method_1_code 11 = .ok (.checkcast 15, 3) := by decide +kernel
theorem d_prog_26_method_1_14 : decode prog_26_method_1_code 14 = .ok (.putfield 17, 3) := by decide +kernel
theorem d_prog_26_method_1_17 : decode prog_26_method_1_code 17 = .ok (.aload_n 0, 1) := by decide +kernel
theorem d_prog_26_method_1_18 : decode prog_26_method_1_code 18 = .ok (.lload_n 2, 1) := by decide +kernel
theorem d_prog_26_method_1_19 : decode prog_26_method_1_code 19 = .ok (.putfield 23, 3) := by decide +kernel
theorem d_prog_26_method_1_22 : decode prog_26_method_1_code 22 = .ok (.return_, 1) := by decide +kernel
theorem d_prog_26_method_1_4 : decode prog_26_method_1_code 4 = .ok (.aload_n 0, 1) := by decide +kernel
theorem d_prog_26_method_1_5 : decode prog_26_method_1_code 5 = .ok (.aload_n 1, 1) := by decide +kernel
theorem d_prog_26_method_1_6 : decode prog_26_method_1_code 6 = .ok (.ldc 7, 2) := by decide +kernel
theorem d_prog_26_method_1_8 : decode prog_26_method_1_code 8 = .ok (.invokestatic 9, 3) := by decide +kernel
theorem d_prog_26_method_4_0 : decode prog_26_method_4_code 0 = .ok (.aload_n 0, 1) := by decide +kernel
theorem d_prog_26_method_4_1 : decode prog_26_method_4_code 1 = .ok (.getfield 17, 3) := by decide +kernel
theorem d_prog_26_method_4_10 : decode prog_26_method_4_code 10 = .ok (.invokevirtual 27, 3) := by decide +kernel
theorem d_prog_26_method_4_13 : decode prog_26_method_4_code 13 = .ok (.iconst 1, 1) := by decide +kernel
theorem d_prog_26_method_4_14 : decode prog_26_method_4_code 14 = .ok (.iadd, 1) := by decide +kernel
theorem d_prog_26_method_4_15 : decode prog_26_method_4_code 15 = .ok (.invokevirtual 31, 3) := by decide +kernel
theorem d_prog_26_method_4_18 : decode prog_26_method_4_code 18 = .ok (.areturn, 1) := by decide +kernel
theorem d_prog_26_method_4_4 : decode prog_26_method_4_code 4 = .ok (.aload_n 0, 1) := by decide +kernel
theorem d_prog_26_method_4_5 : decode prog_26_method_4_code 5 = .ok (.getfield 17, 3) := by decide +kernel
theorem d_prog_26_method_4_8 : decode prog_26_method_4_code 8 = .ok (.bipush 47, 2) := by decide +kernel
theorem w_0 {Z : State} {a0 : Array Value} (hw : ∀ d ∈ tables_1, d.before a0 Z = true) : ((Jvm.Cond.methodLink "com/example/ullr/ullr/files/ListedFileNamePinLaw" (13 : Nat) ({ cls := "com/example/ullr/ullr/files/ListedFileNamePinLaw", name := "pick", desc := "(I)C" } : Jvm.MethodName)) : Jvm.Cond).before a0 Z = true := hw _ (List.mem_of_getElem? (i := 0) rfl)
theorem w_1 {Z : State} {a0 : Array Value} (hw : ∀ d ∈ tables_1, d.before a0 Z = true) : ((Jvm.Cond.static ({ cls := "com/example/ullr/ullr/files/ListedFileNamePinLaw", name := "pick", desc := "(I)C" } : Jvm.MethodName)) : Jvm.Cond).before a0 Z = true := hw _ (List.mem_of_getElem? (i := 1) rfl)
theorem w_2 {Z : State} {a0 : Array Value} (hw : ∀ d ∈ tables_1, d.before a0 Z = true) : ((Jvm.Cond.initialized "com/example/ullr/ullr/files/ListedFileNamePinLaw") : Jvm.Cond).before a0 Z = true := hw _ (List.mem_of_getElem? (i := 2) rfl)
theorem w_3 {Z : State} {a0 : Array Value} (hw : ∀ d ∈ tables_1, d.before a0 Z = true) : ((Jvm.Cond.code ({ cls := "com/example/ullr/ullr/files/ListedFileNamePinLaw", name := "pick", desc := "(I)C" } : Jvm.MethodName) method_2_code (1 : Nat) (Option.some Jvm.ClassFile.FieldType.char)) : Jvm.Cond).before a0 Z = true := hw _ (List.mem_of_getElem? (i := 3) rfl)
theorem w_4 {Z : State} {a0 : Array Value} (hw : ∀ d ∈ tables_1, d.before a0 Z = true) : ((Jvm.Cond.arrayClass Jvm.ClassFile.FieldType.char) : Jvm.Cond).before a0 Z = true := hw _ (List.mem_of_getElem? (i := 4) rfl)
theorem w_5 {Z : State} {a0 : Array Value} (hw : ∀ d ∈ tables_1, d.before a0 Z = true) : ((Jvm.Cond.classLink "com/example/ullr/ullr/files/ListedFileNamePinLaw" (8 : Nat) "java/lang/String") : Jvm.Cond).before a0 Z = true := hw _ (List.mem_of_getElem? (i := 5) rfl)
theorem w_6 {Z : State} {a0 : Array Value} (hw : ∀ d ∈ tables_1, d.before a0 Z = true) : ((Jvm.Cond.instantiable "java/lang/String" (4 : Nat)) : Jvm.Cond).before a0 Z = true := hw _ (List.mem_of_getElem? (i := 6) rfl)
theorem w_7 {Z : State} {a0 : Array Value} (hw : ∀ d ∈ tables_1, d.before a0 Z = true) : ((Jvm.Cond.initialized "java/lang/String") : Jvm.Cond).before a0 Z = true := hw _ (List.mem_of_getElem? (i := 7) rfl)
theorem w_8 {Z : State} {a0 : Array Value} (hw : ∀ d ∈ tables_1, d.before a0 Z = true) : ((Jvm.Cond.methodLink "com/example/ullr/ullr/files/ListedFileNamePinLaw" (18 : Nat) ({ cls := "java/lang/String", name := "<init>", desc := "([C)V" } : Jvm.MethodName)) : Jvm.Cond).before a0 Z = true := hw _ (List.mem_of_getElem? (i := 8) rfl)
theorem w_9 {Z : State} {a0 : Array Value} (hw : ∀ d ∈ tables_1, d.before a0 Z = true) : ((Jvm.Cond.instanceMethod ({ cls := "java/lang/String", name := "<init>", desc := "([C)V" } : Jvm.MethodName)) : Jvm.Cond).before a0 Z = true := hw _ (List.mem_of_getElem? (i := 9) rfl)
theorem w_10 {Z : State} {a0 : Array Value} (hw : ∀ d ∈ tables_1, d.before a0 Z = true) : ((Jvm.Cond.code ({ cls := "java/lang/String", name := "<init>", desc := "([C)V" } : Jvm.MethodName) jdk_42_method_3_code (2 : Nat) (Option.none : Option Jvm.ClassFile.FieldType)) : Jvm.Cond).before a0 Z = true := hw _ (List.mem_of_getElem? (i := 10) rfl)
theorem w_11 {Z : State} {a0 : Array Value} (hw : ∀ d ∈ tables_1, d.before a0 Z = true) : ((Jvm.Cond.methodLink "java/lang/String" (27 : Nat) ({ cls := "java/lang/String", name := "<init>", desc := "([CIILjava/lang/Void;)V" } : Jvm.MethodName)) : Jvm.Cond).before a0 Z = true := hw _ (List.mem_of_getElem? (i := 11) rfl)
theorem w_12 {Z : State} {a0 : Array Value} (hw : ∀ d ∈ tables_1, d.before a0 Z = true) : ((Jvm.Cond.instanceMethod ({ cls := "java/lang/String", name := "<init>", desc := "([CIILjava/lang/Void;)V" } : Jvm.MethodName)) : Jvm.Cond).before a0 Z = true := hw _ (List.mem_of_getElem? (i := 12) rfl)
theorem w_14 {Z : State} {a0 : Array Value} (hw : ∀ d ∈ tables_1, d.before a0 Z = true) : ((Jvm.Cond.code ({ cls := "java/lang/String", name := "<init>", desc := "([CIILjava/lang/Void;)V" } : Jvm.MethodName) jdk_42_method_149_code (6 : Nat) (Option.none : Option Jvm.ClassFile.FieldType)) : Jvm.Cond).before a0 Z = true := hw _ (List.mem_of_getElem? (i := 14) rfl)
theorem w_15 {Z : State} {a0 : Array Value} (hw : ∀ d ∈ tables_1, d.before a0 Z = true) : ((Jvm.Cond.methodLink "java/lang/String" (1 : Nat) ({ cls := "java/lang/Object", name := "<init>", desc := "()V" } : Jvm.MethodName)) : Jvm.Cond).before a0 Z = true := hw _ (List.mem_of_getElem? (i := 15) rfl)
theorem w_16 {Z : State} {a0 : Array Value} (hw : ∀ d ∈ tables_1, d.before a0 Z = true) : ((Jvm.Cond.instanceMethod ({ cls := "java/lang/Object", name := "<init>", desc := "()V" } : Jvm.MethodName)) : Jvm.Cond).before a0 Z = true := hw _ (List.mem_of_getElem? (i := 16) rfl)
theorem w_17 {Z : State} {a0 : Array Value} (hw : ∀ d ∈ tables_1, d.before a0 Z = true) : ((Jvm.Cond.code ({ cls := "java/lang/Object", name := "<init>", desc := "()V" } : Jvm.MethodName) object_method_1_code (1 : Nat) (Option.none : Option Jvm.ClassFile.FieldType)) : Jvm.Cond).before a0 Z = true := hw _ (List.mem_of_getElem? (i := 17) rfl)
theorem w_18 {Z : State} {a0 : Array Value} (hw : ∀ d ∈ tables_1, d.before a0 Z = true) : ((Jvm.Cond.stringLink "java/lang/String" (7 : Nat) "") : Jvm.Cond).before a0 Z = true := hw _ (List.mem_of_getElem? (i := 18) rfl)
theorem w_19 {Z : State} {a0 : Array Value} (hw : ∀ d ∈ tables_1, d.before a0 Z = true) : ((Jvm.Cond.arrayClass Jvm.ClassFile.FieldType.byte) : Jvm.Cond).before a0 Z = true := hw _ (List.mem_of_getElem? (i := 19) rfl)
theorem w_20 {Z : State} {a0 : Array Value} (hw : ∀ d ∈ tables_1, d.before a0 Z = true) : ((Jvm.Cond.laysFinal "java/lang/String" "java/lang/String" "value" "[B") : Jvm.Cond).before a0 Z = true := hw _ (List.mem_of_getElem? (i := 20) rfl)
theorem w_21 {Z : State} {a0 : Array Value} (hw : ∀ d ∈ tables_1, d.before a0 Z = true) : ((Jvm.Cond.laysFinal "java/lang/String" "java/lang/String" "coder" "B") : Jvm.Cond).before a0 Z = true := hw _ (List.mem_of_getElem? (i := 21) rfl)
theorem w_24 {Z : State} {a0 : Array Value} (hw : ∀ d ∈ tables_1, d.before a0 Z = true) : ((Jvm.Cond.fieldLink "java/lang/String" (9 : Nat) "java/lang/String" "value" "[B") : Jvm.Cond).before a0 Z = true := hw _ (List.mem_of_getElem? (i := 24) rfl)
theorem w_25 {Z : State} {a0 : Array Value} (hw : ∀ d ∈ tables_1, d.before a0 Z = true) : ((Jvm.Cond.fieldLink "java/lang/String" (15 : Nat) "java/lang/String" "coder" "B") : Jvm.Cond).before a0 Z = true := hw _ (List.mem_of_getElem? (i := 25) rfl)
theorem w_26 {Z : State} {a0 : Array Value} (hw : ∀ d ∈ tables_1, d.before a0 Z = true) : ((Jvm.Cond.classLink "com/example/ullr/ullr/files/ListedFileNamePinLaw" (21 : Nat) "com/example/ullr/ullr/files/ListedFile") : Jvm.Cond).before a0 Z = true := hw _ (List.mem_of_getElem? (i := 26) rfl)
theorem w_27 {Z : State} {a0 : Array Value} (hw : ∀ d ∈ tables_1, d.before a0 Z = true) : ((Jvm.Cond.instantiable "com/example/ullr/ullr/files/ListedFile" (2 : Nat)) : Jvm.Cond).before a0 Z = true := hw _ (List.mem_of_getElem? (i := 27) rfl)
theorem w_28 {Z : State} {a0 : Array Value} (hw : ∀ d ∈ tables_1, d.before a0 Z = true) : ((Jvm.Cond.initialized "com/example/ullr/ullr/files/ListedFile") : Jvm.Cond).before a0 Z = true := hw _ (List.mem_of_getElem? (i := 28) rfl)
theorem w_29 {Z : State} {a0 : Array Value} (hw : ∀ d ∈ tables_1, d.before a0 Z = true) : ((Jvm.Cond.methodLink "com/example/ullr/ullr/files/ListedFileNamePinLaw" (23 : Nat) ({ cls := "com/example/ullr/ullr/files/ListedFile", name := "<init>", desc := "(Ljava/lang/String;J)V" } : Jvm.MethodName)) : Jvm.Cond).before a0 Z = true := hw _ (List.mem_of_getElem? (i := 29) rfl)
theorem w_30 {Z : State} {a0 : Array Value} (hw : ∀ d ∈ tables_1, d.before a0 Z = true) : ((Jvm.Cond.instanceMethod ({ cls := "com/example/ullr/ullr/files/ListedFile", name := "<init>", desc := "(Ljava/lang/String;J)V" } : Jvm.MethodName)) : Jvm.Cond).before a0 Z = true := hw _ (List.mem_of_getElem? (i := 30) rfl)
theorem w_31 {Z : State} {a0 : Array Value} (hw : ∀ d ∈ tables_1, d.before a0 Z = true) : ((Jvm.Cond.code ({ cls := "com/example/ullr/ullr/files/ListedFile", name := "<init>", desc := "(Ljava/lang/String;J)V" } : Jvm.MethodName) prog_26_method_1_code (4 : Nat) (Option.none : Option Jvm.ClassFile.FieldType)) : Jvm.Cond).before a0 Z = true := hw _ (List.mem_of_getElem? (i := 31) rfl)
theorem w_32 {Z : State} {a0 : Array Value} (hw : ∀ d ∈ tables_1, d.before a0 Z = true) : ((Jvm.Cond.methodLink "com/example/ullr/ullr/files/ListedFile" (1 : Nat) ({ cls := "java/lang/Object", name := "<init>", desc := "()V" } : Jvm.MethodName)) : Jvm.Cond).before a0 Z = true := hw _ (List.mem_of_getElem? (i := 32) rfl)
theorem w_33 {Z : State} {a0 : Array Value} (hw : ∀ d ∈ tables_1, d.before a0 Z = true) : ((Jvm.Cond.stringLink "com/example/ullr/ullr/files/ListedFile" (7 : Nat) "path") : Jvm.Cond).before a0 Z = true := hw _ (List.mem_of_getElem? (i := 33) rfl)
theorem w_34 {Z : State} {a0 : Array Value} (hw : ∀ d ∈ tables_1, d.before a0 Z = true) : ((Jvm.Cond.methodLink "com/example/ullr/ullr/files/ListedFile" (9 : Nat) ({ cls := "java/util/Objects", name := "requireNonNull", desc := "(Ljava/lang/Object;Ljava/lang/String;)Ljava/lang/Object;" } : Jvm.MethodName)) : Jvm.Cond).before a0 Z = true := hw _ (List.mem_of_getElem? (i := 34) rfl)
theorem w_35 {Z : State} {a0 : Array Value} (hw : ∀ d ∈ tables_1, d.before a0 Z = true) : ((Jvm.Cond.static ({ cls := "java/util/Objects", name := "requireNonNull", desc := "(Ljava/lang/Object;Ljava/lang/String;)Ljava/lang/Object;" } : Jvm.MethodName)) : Jvm.Cond).before a0 Z = true := hw _ (List.mem_of_getElem? (i := 35) rfl)
theorem w_36 {Z : State} {a0 : Array Value} (hw : ∀ d ∈ tables_1, d.before a0 Z = true) : ((Jvm.Cond.initialized "java/util/Objects") : Jvm.Cond).before a0 Z = true := hw _ (List.mem_of_getElem? (i := 36) rfl)
theorem w_37 {Z : State} {a0 : Array Value} (hw : ∀ d ∈ tables_1, d.before a0 Z = true) : ((Jvm.Cond.code ({ cls := "java/util/Objects", name := "requireNonNull", desc := "(Ljava/lang/Object;Ljava/lang/String;)Ljava/lang/Object;" } : Jvm.MethodName) jdk_31_method_11_code (2 : Nat) (Option.some (Jvm.ClassFile.FieldType.object "java/lang/Object"))) : Jvm.Cond).before a0 Z = true := hw _ (List.mem_of_getElem? (i := 37) rfl)
theorem w_38 {Z : State} {a0 : Array Value} (hw : ∀ d ∈ tables_1, d.before a0 Z = true) : ((Jvm.Cond.classLink "com/example/ullr/ullr/files/ListedFile" (15 : Nat) "java/lang/String") : Jvm.Cond).before a0 Z = true := hw _ (List.mem_of_getElem? (i := 38) rfl)
theorem w_39 {Z : State} {a0 : Array Value} (hw : ∀ d ∈ tables_1, d.before a0 Z = true) : ((Jvm.Cond.fieldLink "com/example/ullr/ullr/files/ListedFile" (17 : Nat) "com/example/ullr/ullr/files/ListedFile" "_path" "Ljava/lang/String;") : Jvm.Cond).before a0 Z = true := hw _ (List.mem_of_getElem? (i := 39) rfl)
theorem w_40 {Z : State} {a0 : Array Value} (hw : ∀ d ∈ tables_1, d.before a0 Z = true) : ((Jvm.Cond.laysFinal "com/example/ullr/ullr/files/ListedFile" "com/example/ullr/ullr/files/ListedFile" "_path" "Ljava/lang/String;") : Jvm.Cond).before a0 Z = true := hw _ (List.mem_of_getElem? (i := 40) rfl)
theorem w_41 {Z : State} {a0 : Array Value} (hw : ∀ d ∈ tables_1, d.before a0 Z = true) : ((Jvm.Cond.fieldLink "com/example/ullr/ullr/files/ListedFile" (23 : Nat) "com/example/ullr/ullr/files/ListedFile" "_bytes" "J") : Jvm.Cond).before a0 Z = true := hw _ (List.mem_of_getElem? (i := 41) rfl)
theorem w_42 {Z : State} {a0 : Array Value} (hw : ∀ d ∈ tables_1, d.before a0 Z = true) : ((Jvm.Cond.laysFinal "com/example/ullr/ullr/files/ListedFile" "com/example/ullr/ullr/files/ListedFile" "_bytes" "J") : Jvm.Cond).before a0 Z = true := hw _ (List.mem_of_getElem? (i := 42) rfl)
theorem w_43 {Z : State} {a0 : Array Value} (hw : ∀ d ∈ tables_1, d.before a0 Z = true) : ((Jvm.Cond.methodLink "com/example/ullr/ullr/files/ListedFileNamePinLaw" (26 : Nat) ({ cls := "com/example/ullr/ullr/files/ListedFile", name := "name", desc := "()Ljava/lang/String;" } : Jvm.MethodName)) : Jvm.Cond).before a0 Z = true := hw _ (List.mem_of_getElem? (i := 43) rfl)
theorem w_44 {Z : State} {a0 : Array Value} (hw : ∀ d ∈ tables_1, d.before a0 Z = true) : ((Jvm.Cond.declares ({ cls := "com/example/ullr/ullr/files/ListedFile", name := "name", desc := "()Ljava/lang/String;" } : Jvm.MethodName)) : Jvm.Cond).before a0 Z = true := hw _ (List.mem_of_getElem? (i := 44) rfl)
theorem w_45 {Z : State} {a0 : Array Value} (hw : ∀ d ∈ tables_1, d.before a0 Z = true) : ((Jvm.Cond.instanceMethod ({ cls := "com/example/ullr/ullr/files/ListedFile", name := "name", desc := "()Ljava/lang/String;" } : Jvm.MethodName)) : Jvm.Cond).before a0 Z = true := hw _ (List.mem_of_getElem? (i := 45) rfl)
theorem w_46 {Z : State} {a0 : Array Value} (hw : ∀ d ∈ tables_1, d.before a0 Z = true) : ((Jvm.Cond.selects "com/example/ullr/ullr/files/ListedFile" ({ cls := "com/example/ullr/ullr/files/ListedFile", name := "name", desc := "()Ljava/lang/String;" } : Jvm.MethodName) ({ cls := "com/example/ullr/ullr/files/ListedFile", name := "name", desc := "()Ljava/lang/String;" } : Jvm.MethodName)) : Jvm.Cond).before a0 Z = true := hw _ (List.mem_of_getElem? (i := 46) rfl)
theorem w_47 {Z : State} {a0 : Array Value} (hw : ∀ d ∈ tables_1, d.before a0 Z = true) : ((Jvm.Cond.code ({ cls := "com/example/ullr/ullr/files/ListedFile", name := "name", desc := "()Ljava/lang/String;" } : Jvm.MethodName) prog_26_method_4_code (1 : Nat) (Option.some (Jvm.ClassFile.FieldType.object "java/lang/String"))) : Jvm.Cond).before a0 Z = true := hw _ (List.mem_of_getElem? (i := 47) rfl)
theorem w_48 {Z : State} {a0 : Array Value} (hw : ∀ d ∈ tables_1, d.before a0 Z = true) : ((Jvm.Cond.methodLink "com/example/ullr/ullr/files/ListedFile" (27 : Nat) ({ cls := "java/lang/String", name := "lastIndexOf", desc := "(I)I" } : Jvm.MethodName)) : Jvm.Cond).before a0 Z = true := hw _ (List.mem_of_getElem? (i := 48) rfl)
theorem w_49 {Z : State} {a0 : Array Value} (hw : ∀ d ∈ tables_1, d.before a0 Z = true) : ((Jvm.Cond.declares ({ cls := "java/lang/String", name := "lastIndexOf", desc := "(I)I" } : Jvm.MethodName)) : Jvm.Cond).before a0 Z = true := hw _ (List.mem_of_getElem? (i := 49) rfl)
theorem w_50 {Z : State} {a0 : Array Value} (hw : ∀ d ∈ tables_1, d.before a0 Z = true) : ((Jvm.Cond.instanceMethod ({ cls := "java/lang/String", name := "lastIndexOf", desc := "(I)I" } : Jvm.MethodName)) : Jvm.Cond).before a0 Z = true := hw _ (List.mem_of_getElem? (i := 50) rfl)
theorem w_51 {Z : State} {a0 : Array Value} (hw : ∀ d ∈ tables_1, d.before a0 Z = true) : ((Jvm.Cond.selects "java/lang/String" ({ cls := "java/lang/String", name := "lastIndexOf", desc := "(I)I" } : Jvm.MethodName) ({ cls := "java/lang/String", name := "lastIndexOf", desc := "(I)I" } : Jvm.MethodName)) : Jvm.Cond).before a0 Z = true := hw _ (List.mem_of_getElem? (i := 51) rfl)
theorem w_52 {Z : State} {a0 : Array Value} (hw : ∀ d ∈ tables_1, d.before a0 Z = true) : ((Jvm.Cond.code ({ cls := "java/lang/String", name := "lastIndexOf", desc := "(I)I" } : Jvm.MethodName) jdk_42_method_82_code (2 : Nat) (Option.some Jvm.ClassFile.FieldType.int)) : Jvm.Cond).before a0 Z = true := hw _ (List.mem_of_getElem? (i := 52) rfl)
theorem w_53 {Z : State} {a0 : Array Value} (hw : ∀ d ∈ tables_1, d.before a0 Z = true) : ((Jvm.Cond.methodLink "java/lang/String" (505 : Nat) ({ cls := "java/lang/String", name := "length", desc := "()I" } : Jvm.MethodName)) : Jvm.Cond).before a0 Z = true := hw _ (List.mem_of_getElem? (i := 53) rfl)
theorem w_54 {Z : State} {a0 : Array Value} (hw : ∀ d ∈ tables_1, d.before a0 Z = true) : ((Jvm.Cond.declares ({ cls := "java/lang/String", name := "length", desc := "()I" } : Jvm.MethodName)) : Jvm.Cond).before a0 Z = true := hw _ (List.mem_of_getElem? (i := 54) rfl)
theorem w_55 {Z : State} {a0 : Array Value} (hw : ∀ d ∈ tables_1, d.before a0 Z = true) : ((Jvm.Cond.instanceMethod ({ cls := "java/lang/String", name := "length", desc := "()I" } : Jvm.MethodName)) : Jvm.Cond).before a0 Z = true := hw _ (List.mem_of_getElem? (i := 55) rfl)
theorem w_56 {Z : State} {a0 : Array Value} (hw : ∀ d ∈ tables_1, d.before a0 Z = true) : ((Jvm.Cond.selects "java/lang/String" ({ cls := "java/lang/String", name := "length", desc := "()I" } : Jvm.MethodName) ({ cls := "java/lang/String", name := "length", desc := "()I" } : Jvm.MethodName)) : Jvm.Cond).before a0 Z = true := hw _ (List.mem_of_getElem? (i := 56) rfl)
theorem w_57 {Z : State} {a0 : Array Value} (hw : ∀ d ∈ tables_1, d.before a0 Z = true) : ((Jvm.Cond.code ({ cls := "java/lang/String", name := "length", desc := "()I" } : Jvm.MethodName) jdk_42_method_54_code (1 : Nat) (Option.some Jvm.ClassFile.FieldType.int)) : Jvm.Cond).before a0 Z = true := hw _ (List.mem_of_getElem? (i := 57) rfl)
theorem w_63 {Z : State} {a0 : Array Value} (hw : ∀ d ∈ tables_1, d.before a0 Z = true) : ((Jvm.Cond.fieldLink "java/lang/String" (38 : Nat) "java/lang/String" "COMPACT_STRINGS" "Z") : Jvm.Cond).before a0 Z = true := hw _ (List.mem_of_getElem? (i := 63) rfl)
theorem w_64 {Z : State} {a0 : Array Value} (hw : ∀ d ∈ tables_1, d.before a0 Z = true) : ((Jvm.Cond.methodLink "java/lang/String" (641 : Nat) ({ cls := "java/lang/String", name := "lastIndexOf", desc := "(II)I" } : Jvm.MethodName)) : Jvm.Cond).before a0 Z = true := hw _ (List.mem_of_getElem? (i := 64) rfl)
theorem w_65 {Z : State} {a0 : Array Value} (hw : ∀ d ∈ tables_1, d.before a0 Z = true) : ((Jvm.Cond.declares ({ cls := "java/lang/String", name := "lastIndexOf", desc := "(II)I" } : Jvm.MethodName)) : Jvm.Cond).before a0 Z = true := hw _ (List.mem_of_getElem? (i := 65) rfl)
theorem w_66 {Z : State} {a0 : Array Value} (hw : ∀ d ∈ tables_1, d.before a0 Z = true) : ((Jvm.Cond.instanceMethod ({ cls := "java/lang/String", name := "lastIndexOf", desc := "(II)I" } : Jvm.MethodName)) : Jvm.Cond).before a0 Z = true := hw _ (List.mem_of_getElem? (i := 66) rfl)
theorem w_67 {Z : State} {a0 : Array Value} (hw : ∀ d ∈ tables_1, d.before a0 Z = true) : ((Jvm.Cond.selects "java/lang/String" ({ cls := "java/lang/String", name := "lastIndexOf", desc := "(II)I" } : Jvm.MethodName) ({ cls := "java/lang/String", name := "lastIndexOf", desc := "(II)I" } : Jvm.MethodName)) : Jvm.Cond).before a0 Z = true := hw _ (List.mem_of_getElem? (i := 67) rfl)
theorem w_68 {Z : State} {a0 : Array Value} (hw : ∀ d ∈ tables_1, d.before a0 Z = true) : ((Jvm.Cond.code ({ cls := "java/lang/String", name := "lastIndexOf", desc := "(II)I" } : Jvm.MethodName) jdk_42_method_83_code (3 : Nat) (Option.some Jvm.ClassFile.FieldType.int)) : Jvm.Cond).before a0 Z = true := hw _ (List.mem_of_getElem? (i := 68) rfl)
theorem w_69 {Z : State} {a0 : Array Value} (hw : ∀ d ∈ tables_1, d.before a0 Z = true) : ((Jvm.Cond.methodLink "java/lang/String" (492 : Nat) ({ cls := "java/lang/String", name := "isLatin1", desc := "()Z" } : Jvm.MethodName)) : Jvm.Cond).before a0 Z = true := hw _ (List.mem_of_getElem? (i := 69) rfl)
theorem w_70 {Z : State} {a0 : Array Value} (hw : ∀ d ∈ tables_1, d.before a0 Z = true) : ((Jvm.Cond.declares ({ cls := "java/lang/String", name := "isLatin1", desc := "()Z" } : Jvm.MethodName)) : Jvm.Cond).before a0 Z = true := hw _ (List.mem_of_getElem? (i := 70) rfl)
theorem w_71 {Z : State} {a0 : Array Value} (hw : ∀ d ∈ tables_1, d.before a0 Z = true) : ((Jvm.Cond.instanceMethod ({ cls := "java/lang/String", name := "isLatin1", desc := "()Z" } : Jvm.MethodName)) : Jvm.Cond).before a0 Z = true := hw _ (List.mem_of_getElem? (i := 71) rfl)
theorem w_72 {Z : State} {a0 : Array Value} (hw : ∀ d ∈ tables_1, d.before a0 Z = true) : ((Jvm.Cond.selects "java/lang/String" ({ cls := "java/lang/String", name := "isLatin1", desc := "()Z" } : Jvm.MethodName) ({ cls := "java/lang/String", name := "isLatin1", desc := "()Z" } : Jvm.MethodName)) : Jvm.Cond).before a0 Z = true := hw _ (List.mem_of_getElem? (i := 72) rfl)
theorem w_73 {Z : State} {a0 : Array Value} (hw : ∀ d ∈ tables_1, d.before a0 Z = true) : ((Jvm.Cond.code ({ cls := "java/lang/String", name := "isLatin1", desc := "()Z" } : Jvm.MethodName) jdk_42_method_154_code (1 : Nat) (Option.some Jvm.ClassFile.FieldType.boolean)) : Jvm.Cond).before a0 Z = true := hw _ (List.mem_of_getElem? (i := 73) rfl)
theorem w_74 {Z : State} {a0 : Array Value} (hw : ∀ d ∈ tables_1, d.before a0 Z = true) : ((Jvm.Cond.methodLink "java/lang/String" (644 : Nat) ({ cls := "java/lang/StringLatin1", name := "lastIndexOf", desc := "([BII)I" } : Jvm.MethodName)) : Jvm.Cond).before a0 Z = true := hw _ (List.mem_of_getElem? (i := 74) rfl)
theorem w_75 {Z : State} {a0 : Array Value} (hw : ∀ d ∈ tables_1, d.before a0 Z = true) : ((Jvm.Cond.static ({ cls := "java/lang/StringLatin1", name := "lastIndexOf", desc := "([BII)I" } : Jvm.MethodName)) : Jvm.Cond).before a0 Z = true := hw _ (List.mem_of_getElem? (i := 75) rfl)
theorem w_76 {Z : State} {a0 : Array Value} (hw : ∀ d ∈ tables_1, d.before a0 Z = true) : ((Jvm.Cond.initialized "java/lang/StringLatin1") : Jvm.Cond).before a0 Z = true := hw _ (List.mem_of_getElem? (i := 76) rfl)
theorem w_77 {Z : State} {a0 : Array Value} (hw : ∀ d ∈ tables_1, d.before a0 Z = true) : ((Jvm.Cond.code ({ cls := "java/lang/StringLatin1", name := "lastIndexOf", desc := "([BII)I" } : Jvm.MethodName) jdk_43_method_27_code (4 : Nat) (Option.some Jvm.ClassFile.FieldType.int)) : Jvm.Cond).before a0 Z = true := hw _ (List.mem_of_getElem? (i := 77) rfl)
theorem w_78 {Z : State} {a0 : Array Value} (hw : ∀ d ∈ tables_1, d.before a0 Z = true) : ((Jvm.Cond.methodLink "java/lang/StringLatin1" (88 : Nat) ({ cls := "java/lang/StringLatin1", name := "canEncode", desc := "(I)Z" } : Jvm.MethodName)) : Jvm.Cond).before a0 Z = true := hw _ (List.mem_of_getElem? (i := 78) rfl)
theorem w_79 {Z : State} {a0 : Array Value} (hw : ∀ d ∈ tables_1, d.before a0 Z = true) : ((Jvm.Cond.static ({ cls := "java/lang/StringLatin1", name := "canEncode", desc := "(I)Z" } : Jvm.MethodName)) : Jvm.Cond).before a0 Z = true := hw _ (List.mem_of_getElem? (i := 79) rfl)
theorem w_80 {Z : State} {a0 : Array Value} (hw : ∀ d ∈ tables_1, d.before a0 Z = true) : ((Jvm.Cond.code ({ cls := "java/lang/StringLatin1", name := "canEncode", desc := "(I)Z" } : Jvm.MethodName) jdk_43_method_4_code (1 : Nat) (Option.some Jvm.ClassFile.FieldType.boolean)) : Jvm.Cond).before a0 Z = true := hw _ (List.mem_of_getElem? (i := 80) rfl)
theorem w_81 {Z : State} {a0 : Array Value} (hw : ∀ d ∈ tables_1, d.before a0 Z = true) : ((Jvm.Cond.methodLink "java/lang/StringLatin1" (38 : Nat) ({ cls := "java/lang/Math", name := "min", desc := "(II)I" } : Jvm.MethodName)) : Jvm.Cond).before a0 Z = true := hw _ (List.mem_of_getElem? (i := 81) rfl)
theorem w_82 {Z : State} {a0 : Array Value} (hw : ∀ d ∈ tables_1, d.before a0 Z = true) : ((Jvm.Cond.static ({ cls := "java/lang/Math", name := "min", desc := "(II)I" } : Jvm.MethodName)) : Jvm.Cond).before a0 Z = true := hw _ (List.mem_of_getElem? (i := 82) rfl)
theorem w_83 {Z : State} {a0 : Array Value} (hw : ∀ d ∈ tables_1, d.before a0 Z = true) : ((Jvm.Cond.initialized "java/lang/Math") : Jvm.Cond).before a0 Z = true := hw _ (List.mem_of_getElem? (i := 83) rfl)
theorem w_84 {Z : State} {a0 : Array Value} (hw : ∀ d ∈ tables_1, d.before a0 Z = true) : ((Jvm.Cond.code ({ cls := "java/lang/Math", name := "min", desc := "(II)I" } : Jvm.MethodName) jdk_29_method_69_code (2 : Nat) (Option.some Jvm.ClassFile.FieldType.int)) : Jvm.Cond).before a0 Z = true := hw _ (List.mem_of_getElem? (i := 84) rfl)
theorem w_85 {Z : State} {a0 : Array Value} (hw : ∀ d ∈ tables_1, d.before a0 Z = true) : ((Jvm.Cond.methodLink "com/example/ullr/ullr/files/ListedFile" (31 : Nat) ({ cls := "java/lang/String", name := "substring", desc := "(I)Ljava/lang/String;" } : Jvm.MethodName)) : Jvm.Cond).before a0 Z = true := hw _ (List.mem_of_getElem? (i := 85) rfl)
theorem w_86 {Z : State} {a0 : Array Value} (hw : ∀ d ∈ tables_1, d.before a0 Z = true) : ((Jvm.Cond.declares ({ cls := "java/lang/String", name := "substring", desc := "(I)Ljava/lang/String;" } : Jvm.MethodName)) : Jvm.Cond).before a0 Z = true := hw _ (List.mem_of_getElem? (i := 86) rfl)
theorem w_87 {Z : State} {a0 : Array Value} (hw : ∀ d ∈ tables_1, d.before a0 Z = true) : ((Jvm.Cond.instanceMethod ({ cls := "java/lang/String", name := "substring", desc := "(I)Ljava/lang/String;" } : Jvm.MethodName)) : Jvm.Cond).before a0 Z = true := hw _ (List.mem_of_getElem? (i := 87) rfl)
theorem w_88 {Z : State} {a0 : Array Value} (hw : ∀ d ∈ tables_1, d.before a0 Z = true) : ((Jvm.Cond.selects "java/lang/String" ({ cls := "java/lang/String", name := "substring", desc := "(I)Ljava/lang/String;" } : Jvm.MethodName) ({ cls := "java/lang/String", name := "substring", desc := "(I)Ljava/lang/String;" } : Jvm.MethodName)) : Jvm.Cond).before a0 Z = true := hw _ (List.mem_of_getElem? (i := 88) rfl)
theorem w_89 {Z : State} {a0 : Array Value} (hw : ∀ d ∈ tables_1, d.before a0 Z = true) : ((Jvm.Cond.code ({ cls := "java/lang/String", name := "substring", desc := "(I)Ljava/lang/String;" } : Jvm.MethodName) jdk_42_method_91_code (2 : Nat) (Option.some (Jvm.ClassFile.FieldType.object "java/lang/String"))) : Jvm.Cond).before a0 Z = true := hw _ (List.mem_of_getElem? (i := 89) rfl)
theorem w_90 {Z : State} {a0 : Array Value} (hw : ∀ d ∈ tables_1, d.before a0 Z = true) : ((Jvm.Cond.methodLink "java/lang/String" (681 : Nat) ({ cls := "java/lang/String", name := "substring", desc := "(II)Ljava/lang/String;" } : Jvm.MethodName)) : Jvm.Cond).before a0 Z = true := hw _ (List.mem_of_getElem? (i := 90) rfl)
theorem w_91 {Z : State} {a0 : Array Value} (hw : ∀ d ∈ tables_1, d.before a0 Z = true) : ((Jvm.Cond.declares ({ cls := "java/lang/String", name := "substring", desc := "(II)Ljava/lang/String;" } : Jvm.MethodName)) : Jvm.Cond).before a0 Z = true := hw _ (List.mem_of_getElem? (i := 91) rfl)
theorem w_92 {Z : State} {a0 : Array Value} (hw : ∀ d ∈ tables_1, d.before a0 Z = true) : ((Jvm.Cond.instanceMethod ({ cls := "java/lang/String", name := "substring", desc := "(II)Ljava/lang/String;" } : Jvm.MethodName)) : Jvm.Cond).before a0 Z = true := hw _ (List.mem_of_getElem? (i := 92) rfl)
theorem w_93 {Z : State} {a0 : Array Value} (hw : ∀ d ∈ tables_1, d.before a0 Z = true) : ((Jvm.Cond.selects "java/lang/String" ({ cls := "java/lang/String", name := "substring", desc := "(II)Ljava/lang/String;" } : Jvm.MethodName) ({ cls := "java/lang/String", name := "substring", desc := "(II)Ljava/lang/String;" } : Jvm.MethodName)) : Jvm.Cond).before a0 Z = true := hw _ (List.mem_of_getElem? (i := 93) rfl)
theorem w_94 {Z : State} {a0 : Array Value} (hw : ∀ d ∈ tables_1, d.before a0 Z = true) : ((Jvm.Cond.code ({ cls := "java/lang/String", name := "substring", desc := "(II)Ljava/lang/String;" } : Jvm.MethodName) jdk_42_method_92_code (5 : Nat) (Option.some (Jvm.ClassFile.FieldType.object "java/lang/String"))) : Jvm.Cond).before a0 Z = true := hw _ (List.mem_of_getElem? (i := 94) rfl)
theorem w_95 {Z : State} {a0 : Array Value} (hw : ∀ d ∈ tables_1, d.before a0 Z = true) : ((Jvm.Cond.methodLink "java/lang/String" (521 : Nat) ({ cls := "java/lang/String", name := "checkBoundsBeginEnd", desc := "(III)V" } : Jvm.MethodName)) : Jvm.Cond).before a0 Z = true := hw _ (List.mem_of_getElem? (i := 95) rfl)
theorem w_96 {Z : State} {a0 : Array Value} (hw : ∀ d ∈ tables_1, d.before a0 Z = true) : ((Jvm.Cond.static ({ cls := "java/lang/String", name := "checkBoundsBeginEnd", desc := "(III)V" } : Jvm.MethodName)) : Jvm.Cond).before a0 Z = true := hw _ (List.mem_of_getElem? (i := 96) rfl)
theorem w_97 {Z : State} {a0 : Array Value} (hw : ∀ d ∈ tables_1, d.before a0 Z = true) : ((Jvm.Cond.code ({ cls := "java/lang/String", name := "checkBoundsBeginEnd", desc := "(III)V" } : Jvm.MethodName) jdk_42_method_158_code (3 : Nat) (Option.none : Option Jvm.ClassFile.FieldType)) : Jvm.Cond).before a0 Z = true := hw _ (List.mem_of_getElem? (i := 97) rfl)
theorem w_98 {Z : State} {a0 : Array Value} (hw : ∀ d ∈ tables_1, d.before a0 Z = true) : ((Jvm.Cond.fieldLink "java/lang/String" (1053 : Nat) "jdk/internal/util/Preconditions" "SIOOBE_FORMATTER" "Ljava/util/function/BiFunction;") : Jvm.Cond).before a0 Z = true := hw _ (List.mem_of_getElem? (i := 98) rfl)
theorem w_99 {Z : State} {a0 : Array Value} (hw : ∀ d ∈ tables_1, d.before a0 Z = true) : ((Jvm.Cond.initialized "jdk/internal/util/Preconditions") : Jvm.Cond).before a0 Z = true := hw _ (List.mem_of_getElem? (i := 99) rfl)
theorem w_100 {Z : State} {a0 : Array Value} (hw : ∀ d ∈ tables_1, d.before a0 Z = true) : ((Jvm.Cond.methodLink "java/lang/String" (1062 : Nat) ({ cls := "jdk/internal/util/Preconditions", name := "checkFromToIndex", desc := "(IIILjava/util/function/BiFunction;)I" } : Jvm.MethodName)) : Jvm.Cond).before a0 Z = true := hw _ (List.mem_of_getElem? (i := 100) rfl)
theorem w_101 {Z : State} {a0 : Array Value} (hw : ∀ d ∈ tables_1, d.before a0 Z = true) : ((Jvm.Cond.static ({ cls := "jdk/internal/util/Preconditions", name := "checkFromToIndex", desc := "(IIILjava/util/function/BiFunction;)I" } : Jvm.MethodName)) : Jvm.Cond).before a0 Z = true := hw _ (List.mem_of_getElem? (i := 101) rfl)
theorem w_102 {Z : State} {a0 : Array Value} (hw : ∀ d ∈ tables_1, d.before a0 Z = true) : ((Jvm.Cond.code ({ cls := "jdk/internal/util/Preconditions", name := "checkFromToIndex", desc := "(IIILjava/util/function/BiFunction;)I" } : Jvm.MethodName) jdk_41_method_12_code (4 : Nat) (Option.some Jvm.ClassFile.FieldType.int)) : Jvm.Cond).before a0 Z = true := hw _ (List.mem_of_getElem? (i := 102) rfl)
theorem w_103 {Z : State} {a0 : Array Value} (hw : ∀ d ∈ tables_1, d.before a0 Z = true) : ((Jvm.Cond.methodLink "com/example/ullr/ullr/files/ListedFileNamePinLaw" (30 : Nat) ({ cls := "java/lang/String", name := "length", desc := "()I" } : Jvm.MethodName)) : Jvm.Cond).before a0 Z = true := hw _ (List.mem_of_getElem? (i := 103) rfl)
theorem w_104 {Z : State} {a0 : Array Value} (hw : ∀ d ∈ tables_1, d.before a0 Z = true) : ((Jvm.Cond.methodLink "com/example/ullr/ullr/files/ListedFileNamePinLaw" (34 : Nat) ({ cls := "com/example/ullr/ullr/files/ListedFileNamePinLaw", name := "at", desc := "(Ljava/lang/String;[CIII)Z" } : Jvm.MethodName)) : Jvm.Cond).before a0 Z = true := hw _ (List.mem_of_getElem? (i := 104) rfl)
theorem w_105 {Z : State} {a0 : Array Value} (hw : ∀ d ∈ tables_1, d.before a0 Z = true) : ((Jvm.Cond.static ({ cls := "com/example/ullr/ullr/files/ListedFileNamePinLaw", name := "at", desc := "(Ljava/lang/String;[CIII)Z" } : Jvm.MethodName)) : Jvm.Cond).before a0 Z = true := hw _ (List.mem_of_getElem? (i := 105) rfl)
theorem w_106 {Z : State} {a0 : Array Value} (hw : ∀ d ∈ tables_1, d.before a0 Z = true) : ((Jvm.Cond.code ({ cls := "com/example/ullr/ullr/files/ListedFileNamePinLaw", name := "at", desc := "(Ljava/lang/String;[CIII)Z" } : Jvm.MethodName) method_3_code (5 : Nat) (Option.some Jvm.ClassFile.FieldType.boolean)) : Jvm.Cond).before a0 Z = true := hw _ (List.mem_of_getElem? (i := 106) rfl)
theorem w_117 {Z : State} {a0 : Array Value} (hw : ∀ d ∈ tables_1, d.before a0 Z = true) : ((Jvm.Cond.methodLink "java/lang/String" (685 : Nat) ({ cls := "java/lang/StringLatin1", name := "newString", desc := "([BII)Ljava/lang/String;" } : Jvm.MethodName)) : Jvm.Cond).before a0 Z = true := hw _ (List.mem_of_getElem? (i := 117) rfl)
theorem w_118 {Z : State} {a0 : Array Value} (hw : ∀ d ∈ tables_1, d.before a0 Z = true) : ((Jvm.Cond.static ({ cls := "java/lang/StringLatin1", name := "newString", desc := "([BII)Ljava/lang/String;" } : Jvm.MethodName)) : Jvm.Cond).before a0 Z = true := hw _ (List.mem_of_getElem? (i := 118) rfl)
theorem w_119 {Z : State} {a0 : Array Value} (hw : ∀ d ∈ tables_1, d.before a0 Z = true) : ((Jvm.Cond.code ({ cls := "java/lang/StringLatin1", name := "newString", desc := "([BII)Ljava/lang/String;" } : Jvm.MethodName) jdk_43_method_47_code (3 : Nat) (Option.some (Jvm.ClassFile.FieldType.object "java/lang/String"))) : Jvm.Cond).before a0 Z = true := hw _ (List.mem_of_getElem? (i := 119) rfl)
theorem w_120 {Z : State} {a0 : Array Value} (hw : ∀ d ∈ tables_1, d.before a0 Z = true) : ((Jvm.Cond.classLink "java/lang/StringLatin1" (1 : Nat) "java/lang/String") : Jvm.Cond).before a0 Z = true := hw _ (List.mem_of_getElem? (i := 120) rfl)
theorem w_121 {Z : State} {a0 : Array Value} (hw : ∀ d ∈ tables_1, d.before a0 Z = true) : ((Jvm.Cond.methodLink "java/lang/StringLatin1" (232 : Nat) ({ cls := "java/util/Arrays", name := "copyOfRange", desc := "([BII)[B" } : Jvm.MethodName)) : Jvm.Cond).before a0 Z = true := hw _ (List.mem_of_getElem? (i := 121) rfl)
theorem w_122 {Z : State} {a0 : Array Value} (hw : ∀ d ∈ tables_1, d.before a0 Z = true) : ((Jvm.Cond.static ({ cls := "java/util/Arrays", name := "copyOfRange", desc := "([BII)[B" } : Jvm.MethodName)) : Jvm.Cond).before a0 Z = true := hw _ (List.mem_of_getElem? (i := 122) rfl)
theorem w_123 {Z : State} {a0 : Array Value} (hw : ∀ d ∈ tables_1, d.before a0 Z = true) : ((Jvm.Cond.initialized "java/util/Arrays") : Jvm.Cond).before a0 Z = true := hw _ (List.mem_of_getElem? (i := 123) rfl)
theorem w_124 {Z : State} {a0 : Array Value} (hw : ∀ d ∈ tables_1, d.before a0 Z = true) : ((Jvm.Cond.code ({ cls := "java/util/Arrays", name := "copyOfRange", desc := "([BII)[B" } : Jvm.MethodName) jdk_65_method_132_code (3 : Nat) (Option.some (Jvm.ClassFile.FieldType.array Jvm.ClassFile.FieldType.byte))) : Jvm.Cond).before a0 Z = true := hw _ (List.mem_of_getElem? (i := 124) rfl)
theorem w_125 {Z : State} {a0 : Array Value} (hw : ∀ d ∈ tables_1, d.before a0 Z = true) : ((Jvm.Cond.methodLink "java/util/Arrays" (339 : Nat) ({ cls := "java/util/Arrays", name := "copyOfRangeByte", desc := "([BII)[B" } : Jvm.MethodName)) : Jvm.Cond).before a0 Z = true := hw _ (List.mem_of_getElem? (i := 125) rfl)
theorem w_126 {Z : State} {a0 : Array Value} (hw : ∀ d ∈ tables_1, d.before a0 Z = true) : ((Jvm.Cond.static ({ cls := "java/util/Arrays", name := "copyOfRangeByte", desc := "([BII)[B" } : Jvm.MethodName)) : Jvm.Cond).before a0 Z = true := hw _ (List.mem_of_getElem? (i := 126) rfl)
theorem w_127 {Z : State} {a0 : Array Value} (hw : ∀ d ∈ tables_1, d.before a0 Z = true) : ((Jvm.Cond.code ({ cls := "java/util/Arrays", name := "copyOfRangeByte", desc := "([BII)[B" } : Jvm.MethodName) jdk_65_method_133_code (5 : Nat) (Option.some (Jvm.ClassFile.FieldType.array Jvm.ClassFile.FieldType.byte))) : Jvm.Cond).before a0 Z = true := hw _ (List.mem_of_getElem? (i := 127) rfl)
theorem w_128 {Z : State} {a0 : Array Value} (hw : ∀ d ∈ tables_1, d.before a0 Z = true) : ((Jvm.Cond.methodLink "java/util/Arrays" (343 : Nat) ({ cls := "java/util/Arrays", name := "checkLength", desc := "(II)V" } : Jvm.MethodName)) : Jvm.Cond).before a0 Z = true := hw _ (List.mem_of_getElem? (i := 128) rfl)
theorem w_129 {Z : State} {a0 : Array Value} (hw : ∀ d ∈ tables_1, d.before a0 Z = true) : ((Jvm.Cond.static ({ cls := "java/util/Arrays", name := "checkLength", desc := "(II)V" } : Jvm.MethodName)) : Jvm.Cond).before a0 Z = true := hw _ (List.mem_of_getElem? (i := 129) rfl)
theorem w_130 {Z : State} {a0 : Array Value} (hw : ∀ d ∈ tables_1, d.before a0 Z = true) : ((Jvm.Cond.code ({ cls := "java/util/Arrays", name := "checkLength", desc := "(II)V" } : Jvm.MethodName) jdk_65_method_131_code (2 : Nat) (Option.none : Option Jvm.ClassFile.FieldType)) : Jvm.Cond).before a0 Z = true := hw _ (List.mem_of_getElem? (i := 130) rfl)
theorem w_131 {Z : State} {a0 : Array Value} (hw : ∀ d ∈ tables_1, d.before a0 Z = true) : ((Jvm.Cond.methodLink "java/util/Arrays" (304 : Nat) ({ cls := "java/lang/Math", name := "min", desc := "(II)I" } : Jvm.MethodName)) : Jvm.Cond).before a0 Z = true := hw _ (List.mem_of_getElem? (i := 131) rfl)
theorem w_132 {Z : State} {a0 : Array Value} (hw : ∀ d ∈ tables_1, d.before a0 Z = true) : ((Jvm.Cond.methodLink "java/util/Arrays" (150 : Nat) ({ cls := "java/lang/System", name := "arraycopy", desc := "(Ljava/lang/Object;ILjava/lang/Object;II)V" } : Jvm.MethodName)) : Jvm.Cond).before a0 Z = true := hw _ (List.mem_of_getElem? (i := 132) rfl)
theorem w_133 {Z : State} {a0 : Array Value} (hw : ∀ d ∈ tables_1, d.before a0 Z = true) : ((Jvm.Cond.static ({ cls := "java/lang/System", name := "arraycopy", desc := "(Ljava/lang/Object;ILjava/lang/Object;II)V" } : Jvm.MethodName)) : Jvm.Cond).before a0 Z = true := hw _ (List.mem_of_getElem? (i := 133) rfl)
theorem w_134 {Z : State} {a0 : Array Value} (hw : ∀ d ∈ tables_1, d.before a0 Z = true) : ((Jvm.Cond.initialized "java/lang/System") : Jvm.Cond).before a0 Z = true := hw _ (List.mem_of_getElem? (i := 134) rfl)
theorem w_135 {Z : State} {a0 : Array Value} (hw : ∀ d ∈ tables_1, d.before a0 Z = true) : ((Jvm.Cond.native ({ cls := "java/lang/System", name := "arraycopy", desc := "(Ljava/lang/Object;ILjava/lang/Object;II)V" } : Jvm.MethodName)) : Jvm.Cond).before a0 Z = true := hw _ (List.mem_of_getElem? (i := 135) rfl)
theorem w_136 {Z : State} {a0 : Array Value} (hw : ∀ d ∈ tables_1, d.before a0 Z = true) : ((Jvm.Cond.methodLink "java/lang/StringLatin1" (112 : Nat) ({ cls := "java/lang/String", name := "<init>", desc := "([BB)V" } : Jvm.MethodName)) : Jvm.Cond).before a0 Z = true := hw _ (List.mem_of_getElem? (i := 136) rfl)
theorem w_137 {Z : State} {a0 : Array Value} (hw : ∀ d ∈ tables_1, d.before a0 Z = true) : ((Jvm.Cond.instanceMethod ({ cls := "java/lang/String", name := "<init>", desc := "([BB)V" } : Jvm.MethodName)) : Jvm.Cond).before a0 Z = true := hw _ (List.mem_of_getElem? (i := 137) rfl)
theorem w_138 {Z : State} {a0 : Array Value} (hw : ∀ d ∈ tables_1, d.before a0 Z = true) : ((Jvm.Cond.code ({ cls := "java/lang/String", name := "<init>", desc := "([BB)V" } : Jvm.MethodName) jdk_42_method_151_code (3 : Nat) (Option.none : Option Jvm.ClassFile.FieldType)) : Jvm.Cond).before a0 Z = true := hw _ (List.mem_of_getElem? (i := 138) rfl)
theorem w_139 {Z : State} {a0 : Array Value} (hw : ∀ d ∈ tables_1, d.before a0 Z = true) : ((Jvm.Cond.methodLink "com/example/ullr/ullr/files/ListedFileNamePinLaw" (7 : Nat) ({ cls := "java/lang/String", name := "charAt", desc := "(I)C" } : Jvm.MethodName)) : Jvm.Cond).before a0 Z = true := hw _ (List.mem_of_getElem? (i := 139) rfl)
theorem w_140 {Z : State} {a0 : Array Value} (hw : ∀ d ∈ tables_1, d.before a0 Z = true) : ((Jvm.Cond.declares ({ cls := "java/lang/String", name := "charAt", desc := "(I)C" } : Jvm.MethodName)) : Jvm.Cond).before a0 Z = true := hw _ (List.mem_of_getElem? (i := 140) rfl)
theorem w_141 {Z : State} {a0 : Array Value} (hw : ∀ d ∈ tables_1, d.before a0 Z = true) : ((Jvm.Cond.instanceMethod ({ cls := "java/lang/String", name := "charAt", desc := "(I)C" } : Jvm.MethodName)) : Jvm.Cond).before a0 Z = true := hw _ (List.mem_of_getElem? (i := 141) rfl)
theorem w_142 {Z : State} {a0 : Array Value} (hw : ∀ d ∈ tables_1, d.before a0 Z = true) : ((Jvm.Cond.selects "java/lang/String" ({ cls := "java/lang/String", name := "charAt", desc := "(I)C" } : Jvm.MethodName) ({ cls := "java/lang/String", name := "charAt", desc := "(I)C" } : Jvm.MethodName)) : Jvm.Cond).before a0 Z = true := hw _ (List.mem_of_getElem? (i := 142) rfl)
theorem w_143 {Z : State} {a0 : Array Value} (hw : ∀ d ∈ tables_1, d.before a0 Z = true) : ((Jvm.Cond.code ({ cls := "java/lang/String", name := "charAt", desc := "(I)C" } : Jvm.MethodName) jdk_42_method_56_code (2 : Nat) (Option.some Jvm.ClassFile.FieldType.char)) : Jvm.Cond).before a0 Z = true := hw _ (List.mem_of_getElem? (i := 143) rfl)
theorem w_153 {Z : State} {a0 : Array Value} (hw : ∀ d ∈ tables_1, d.before a0 Z = true) : ((Jvm.Cond.stringLink "java/lang/StringLatin1" (151 : Nat) "") : Jvm.Cond).before a0 Z = true := hw _ (List.mem_of_getElem? (i := 153) rfl)
theorem own_big {c : Int32} (q : (65535 : Int32) < c) : (255 : Int32) < c := by
  rw [Int32.lt_iff_toInt_lt] at q ⊢
  have e1 : (65535 : Int32).toInt = 65535 := by decide
  have e2 : (255 : Int32).toInt = 255 := by decide
  omega
def own_b8 (cs : List Int32) : List Value := (cs.map fun c => c.toInt8.toInt32).map Value.int
def own_Str (Z : State) (h : Heap) (x t : Addr) (k : ClassId) (cs : List Int32) : Prop := Exa Z h x "java/lang/String" ∧ Fld Z h x "java/lang/String" "value" "[B" (.ref t) ∧ Fld Z h x "java/lang/String" "coder" "B" (.int (0 : Int32)) ∧ Arv Z h t k .byte (Int32.ofNat cs.length) (own_b8 cs) (.int 0) ∧ cs.length ≤ 4000 ∧ ∀ c ∈ cs, ¬ c < 0 ∧ ¬ (255 : Int32) < c
theorem own_up {Z : State} {h : Heap} {x t : Addr} {k : ClassId} {cs : List Int32} (S : own_Str Z h x t k cs) : ∀ c ∈ cs, ¬ c < 0 ∧ ¬ (65535 : Int32) < c := fun c hc => ⟨(S.2.2.2.2.2 c hc).1, fun q => (S.2.2.2.2.2 c hc).2 (own_big q)⟩
theorem own_w_backV {Z : State} {a0 : Array Value} (hw : ∀ d ∈ tables_1, d.before a0 Z = true) : ∀ d ∈ StrChars.Road.words, d.before a0 Z = true := fun d hd => hw d ((by decide +kernel : ∀ d ∈ StrChars.Road.words, d ∈ tables_1) d hd)
theorem own_w_lenW {Z : State} {a0 : Array Value} (hw : ∀ d ∈ tables_1, d.before a0 Z = true) : ∀ d ∈ StrChars.Road.wordsLen, d.before a0 Z = true := fun d hd => hw d ((by decide +kernel : ∀ d ∈ StrChars.Road.wordsLen, d ∈ tables_1) d hd)
theorem own_w_chN {Z : State} {a0 : Array Value} (hw : ∀ d ∈ tables_1, d.before a0 Z = true) : ∀ d ∈ StrChars.Road.wordsChN, d.before a0 Z = true := fun d hd => hw d ((by decide +kernel : ∀ d ∈ StrChars.Road.wordsChN, d ∈ tables_1) d hd)
theorem own_cod {Z : State} {h : Heap} {x t : Addr} {k : ClassId} {cs : List Int32} (S : own_Str Z h x t k cs) : StrChars.Road.CodA cs 0 (Int32.ofNat cs.length) (own_b8 cs) := StrChars.Road.codOf rfl (fun c hc => (S.2.2.2.2.2 c hc).2)
theorem own_len {p : Program} {l : Launch} {e : Env} {R : Room} {s : State} {args : Array Value} {below : List Frame} {len W : Nat} {Z : State} {a0 : Array Value} {h : Heap} (hZ : Z.Warmed39 s.vm) (hw : ∀ d ∈ tables_1, d.before a0 Z = true) {x t : Addr} {k : ClassId} {cs : List Int32} {z : Int32} (S : own_Str Z h x t k cs) (C : Sta Z h "java/lang/String" "COMPACT_STRINGS" "Z" (.int z)) (hz : ¬ (z = (0 : Int32))) (hfr : 2 ≤ R.frames) (hlo : W + 25 ≤ R.locals) :
    Back l R p e below s args (⟨"java/lang/String", "length", "()I"⟩ : MethodName) len W (fun P a => a = #[.ref x] ∧ P.U.heap = h ∧ P.cells + 0 ≤ R.cells ∧ P.slots + 0 ≤ R.slots) (fun P _ v B => ∃ L, (v = some (.int (Int32.ofNat cs.length)) ∧ L = [] ∧ B.U.heap = h) ∧ B.locs = P.locs ++ L ∧ B.cells = P.cells + 0 ∧ B.slots = P.slots + 0) :=
  StrChars.Road.lenW hZ (own_w_lenW hw) (w_6 hw) S.1 S.2.1 S.2.2.1 S.2.2.2.1 (own_cod S) (own_up S) C hz S.2.2.2.2.1 hfr hlo
theorem own_chr {p : Program} {l : Launch} {e : Env} {R : Room} {s : State} {args : Array Value} {below : List Frame} {len W : Nat} {Z : State} {a0 : Array Value} {h : Heap} (hZ : Z.Warmed39 s.vm) (hw : ∀ d ∈ tables_1, d.before a0 Z = true) {x t : Addr} {k : ClassId} {cs : List Int32} {z : Int32} {fm : Value} {i : Nat} {j : Int32} (S : own_Str Z h x t k cs) (C : Sta Z h "java/lang/String" "COMPACT_STRINGS" "Z" (.int z)) (hz : ¬ (z = (0 : Int32))) (F : Sta Z h "jdk/internal/util/Preconditions" "SIOOBE_FORMATTER" "Ljava/util/function/BiFunction;" fm) (rf : fm.isRef = true) (hi : i < cs.length) (hj : j = Int32.ofNat i) (hfr : 4 ≤ R.frames) (hlo : W + 53 ≤ R.locals) :
    Back l R p e below s args (⟨"java/lang/String", "charAt", "(I)C"⟩ : MethodName) len W (fun P a => a = #[.ref x, .int j] ∧ P.U.heap = h ∧ P.cells + 0 ≤ R.cells ∧ P.slots + 0 ≤ R.slots) (fun P _ v B => ∃ L, (v = some (.int (cs.getD i 0)) ∧ L = [] ∧ B.U.heap = h) ∧ B.locs = P.locs ++ L ∧ B.cells = P.cells + 0 ∧ B.slots = P.slots + 0) :=
  StrChars.Road.chN hZ (own_w_chN hw) (w_6 hw) S.1 S.2.1 S.2.2.1 S.2.2.2.1 (own_cod S) (own_up S) C hz F rf S.2.2.2.2.1 hi hj hfr hlo
theorem own_new {p : Program} {l : Launch} {e : Env} {R : Room} {s : State} {args : Array Value} {below : List Frame} {len W : Nat} {Z : State} {a0 : Array Value} {h : Heap} (hZ : Z.Warmed39 s.vm) (hw : ∀ d ∈ tables_1, d.before a0 Z = true) {x b : Addr} {kC : ClassId} {cs : List Int32} {d v0 c0 : Value} {z N : Int32} {n n0 : Nat} (hx0 : n0 ≤ x) (hh0 : n0 ≤ h.size) (E : Exa Z h x "java/lang/String") (V : Fld Z h x "java/lang/String" "value" "[B" v0) (C : Fld Z h x "java/lang/String" "coder" "B" c0) (K : Arv Z h b kC .char N (cs.map Value.int) d) (S : Sta Z h "java/lang/String" "COMPACT_STRINGS" "Z" (.int z)) (hz : ¬ (z = (0 : Int32))) (hn : cs.length = n) (hN : N = Int32.ofNat n) (l0 : 0 < n) (l2 : n ≤ 4000) (hp : ∀ c ∈ cs, ¬ c < 0 ∧ ¬ (255 : Int32) < c) (hfr : 4 ≤ R.frames) (hlo : W + 65 ≤ R.locals) :
    Back l R p e below s args (⟨"java/lang/String", "<init>", "([C)V"⟩ : MethodName) len W (fun P a => a = #[.ref x, .ref b] ∧ P.U.heap = h ∧ P.cells + 1 ≤ R.cells ∧ P.slots + n ≤ R.slots)
      (fun P _ v B => ∃ L, (v = none ∧ Fr n0 L ∧ Keep h B.U.heap [x] ∧ ∃ (t : Addr) (kb : ClassId), h.size ≤ t ∧ own_Str Z B.U.heap x t kb cs) ∧ B.locs = P.locs ++ L ∧ B.cells = P.cells + 1 ∧ B.slots = P.slots + n) := by
  refine Back.mono (StrChars.Road.backV hZ (own_w_backV hw) (w_6 hw) hx0 hh0 E V C K S hz hn hN l0 l2 hp rfl hfr hlo) (fun _ _ h => h) (fun P a v B hp' hq => ?_)
  obtain ⟨L, ⟨h1, h2, h3, h4, h5, t, kb, h6, h7, h8, h9, h10⟩, h11⟩ := hq
  subst hn hN
  exact ⟨L, ⟨h1, h2, h3, t, kb, h7, h4, h9, h5, h10, l2, hp⟩, h11⟩

def own_EL : List (String × Nat) := [("java/lang/String", 7), ("java/lang/StringLatin1", 151)]
theorem own_EW {Z : State} {a0 : Array Value} (hw : ∀ d ∈ tables_1, d.before a0 Z = true) : EW Z a0 own_EL := (EW.cons (w_18 hw) (by decide) (EW.cons (w_153 hw) (by decide) EW.nil))
theorem own_wS {Z : State} {a0 : Array Value} (hw : ∀ d ∈ tables_1, d.before a0 Z = true) : ∀ a ∈ Bundle.stringAtoms, a.before a0 Z = true := fun d hd => hw d ((by decide +kernel : ∀ d ∈ Bundle.stringAtoms, d ∈ tables_1) d hd)
theorem own_sf0 {Z : State} {EL : List (String × Nat)} {vm0 : Vm} {h : Heap} : ∀ x ∈ ([] : List Addr), x < h.size ∧ Safe Z EL vm0 h x := fun _ q => nomatch q
theorem own_sfS {Z : State} {EL : List (String × Nat)} {vm0 : Vm} {h : Heap} {x : Addr} {ws : List Addr} (n1 : x < h.size) (n : Safe Z EL vm0 h x) (r : ∀ y ∈ ws, y < h.size ∧ Safe Z EL vm0 h y) : ∀ y ∈ x :: ws, y < h.size ∧ Safe Z EL vm0 h y := fun y q => by
  rcases List.mem_cons.mp q with rfl | q
  · exact ⟨n1, n⟩
  · exact r y q
theorem own_backOfSH {p : Program} {l : Launch} {e : Env} {R : Room} {s : State} {args : Array Value} {below : List Frame} {Z : State} {a0 : Array Value} {EL : List (String × Nat)} {h : Heap} {vm0 : Vm} {sf : List Addr} {y : MethodName} {bytes : ByteArray} {maxL : Nat} {ret : Option FieldType} {rm : Room} {len W : Nat} {as' : Array Value} {Q : Option Value → Heap → List Loc → Prop}
    (hM : MetFree l y (head1 [Jvm.Cond.code y bytes maxL ret] rm) (fun a U => a = as' ∧ Z.Warmed39 U.vm ∧ U.heap = h ∧ CHv Z EL U.vm h ∧ ∀ x ∈ sf, Safe Z EL U.vm h x) (fun _ _ _ _ _ => True) (fun _ U o U' => ∃ v L, o = .returned v ∧ Q v U'.heap L ∧ CHr Z EL U.vm U.heap U'.vm U'.heap ∧ ReturnedEndW U o U' L rm.cells rm.slots))
    (hZ : Z.Warmed39 vm0) (wc : (Jvm.Cond.code y bytes maxL ret).before a0 Z = true) (wz : (Jvm.Cond.initialized y.cls).before a0 Z = true) (hf : rm.frames + 1 ≤ R.frames) (hl : W + (maxL + 11) + rm.locals ≤ R.locals) (hEL : EW Z a0 EL) (H : CHv Z EL vm0 h) (hsf : ∀ x ∈ sf, x < h.size ∧ Safe Z EL vm0 h x) :
    BackS l R p e below (s.setVm vm0) args y len W (fun A a => a = as' ∧ A.U.heap = h ∧ A.cells + rm.cells ≤ R.cells ∧ A.slots + rm.slots ≤ R.slots)
      (fun A _ v B => ∃ L, Q v B.U.heap L ∧ B.locs = A.locs ++ L ∧ B.cells = A.cells + rm.cells ∧ B.slots = A.slots + rm.slots ∧ CHr Z EL vm0 h B.U.vm B.U.heap) :=
  BackS.of_freeW (bytes := bytes) (maxL := maxL) (ret := ret) (E := fun _ first o t L k n => k = rm.cells ∧ n = rm.slots ∧ (∃ v, o = .returned v ∧ Q v t.heap L) ∧ CHr Z EL first.vm first.heap t.vm t.heap) hM hf hl
    (fun m meth c A a Y hp => have hU : Z.Warmed39 A.U.vm := wtrans (s := s.setVm vm0) hZ Y.warmed
      ⟨by show (Jvm.Cond.and _ .tt).before a A.U = true; rw [Cond.before_and, mv hU wc]; rfl, mv hU wc, mv hU wz, hp.2.2.1, hp.2.2.2⟩)
    (fun m meth c A a g mk Y hp => ⟨hp.1, wtrans (s := s.setVm vm0) hZ Y.warmed, hp.2.1, (CHv.at Y hZ hEL H).1, fun x hx => (CHv.at Y hZ hEL H).safe (hsf x hx).1 (hsf x hx).2⟩) (fun _ _ _ _ _ _ _ _ _ => trivial)
    (fun _ _ _ _ ⟨v, L, h1, h2, h3, h4⟩ => ⟨L, _, _, h4, rfl, rfl, ⟨v, h1, h2⟩, h3⟩)
    (fun m meth c A a g mk v t L k n Y hp _ _ ⟨e1, e2, ⟨v', e3, e4⟩, e5⟩ => by
      cases e3; subst e1 e2
      refine ⟨L, e4, rfl, rfl, rfl, (CHv.at Y hZ hEL H).trans ?_⟩
      rw [← hp.2.1]; exact e5)


theorem own_c255 (x : Int32) : ¬ (x &&& (255 : Int32)) < 0 ∧ ¬ (255 : Int32) < (x &&& (255 : Int32)) := by
  have h : (x &&& (255 : Int32)).toBitVec.toNat ≤ 255 := by
    show ((x.toBitVec &&& 255#32)).toNat ≤ 255
    rw [BitVec.toNat_and]
    exact Nat.and_le_right
  have e : (x &&& (255 : Int32)).toInt = ((x &&& (255 : Int32)).toBitVec.toNat : Int) := by
    show (x &&& (255 : Int32)).toBitVec.toInt = _
    rw [BitVec.toInt_eq_toNat_cond, if_pos (by omega)]
  constructor <;> rw [Int32.lt_iff_toInt_lt, e]
  · show ¬ _ < (0 : Int); omega
  · show ¬ (255 : Int) < _; omega
theorem own_rem (a b : Nat) (ha : a < 2147483648) (hb : b + 1 < 2147483648) : Int32.ofNat a % Int32.ofNat (b + 1) = Int32.ofNat (a % (b + 1)) := by
  apply Int32.toInt_inj.mp
  have h1 : a % (b + 1) ≤ a := Nat.mod_le _ _
  rw [Int32.toInt_mod, own_toI ha, own_toI hb, own_toI (by omega)]
  rw [Int.tmod_eq_emod_of_nonneg (by omega)]
  omega
theorem own_nz (b : Nat) (hb : b + 1 < 2147483648) : Int32.ofNat (b + 1) ≠ 0 := fun h => by
  have q := congrArg Int32.toInt h
  rw [own_toI hb] at q
  have e : (0 : Int32).toInt = 0 := by decide
  rw [e] at q; omega


theorem own_i2c {c : Int32} (h : ¬ c < 0 ∧ ¬ (255 : Int32) < c) : c.toUInt32.toUInt16.toUInt32.toInt32 = c := by
  have e : c &&& (255 : Int32) = c := by
    rw [Int32.lt_iff_toInt_lt, Int32.lt_iff_toInt_lt] at h
    have e0 : (0 : Int32).toInt = 0 := by decide
    have e2 : (255 : Int32).toInt = 255 := by decide
    rw [e0, e2] at h
    have hn : c.toBitVec.toNat ≤ 255 := by
      have q : c.toInt = c.toBitVec.toInt := rfl
      rw [BitVec.toInt_eq_toNat_cond] at q
      have := c.toBitVec.isLt
      split at q <;> omega
    apply Int32.toBitVec_inj.mp
    show c.toBitVec &&& 255#32 = c.toBitVec
    apply BitVec.eq_of_toNat_eq
    rw [BitVec.toNat_and]
    show c.toBitVec.toNat &&& 255 = _
    rw [show (255 : Nat) = 2 ^ 8 - 1 from rfl, Nat.and_two_pow_sub_one_eq_mod]
    omega
  have := i2c_mask c
  rw [e] at this
  exact this
theorem own_nc {c : Int32} (h : ¬ c < 0 ∧ ¬ (255 : Int32) < c) : nar .char c = c := own_i2c h


def own_max (p q : Int32) : Int32 := if p < q then q else p
def own_min (p q : Int32) : Int32 := if q < p then q else p
def own_enc (p : Int32) : Int32 := if p < (0 : Int32) then 0 else if (255 : Int32) < p then 0 else 1
def own_end (cs : List Int32) (d : Int32) : Nat → Nat → Nat
  | i, 0 => i
  | i, k + 1 => if cs.getD i 0 = d then i else own_end cs d (i + 1) k
def own_ixk (cs : List Int32) (d : Int32) : Nat → Nat → Int32
  | _, 0 => -1
  | i, k + 1 => if cs.getD i 0 = d then Int32.ofNat i else own_ixk cs d (i + 1) k
theorem own_end_bd (cs : List Int32) (d : Int32) : ∀ k i, i ≤ own_end cs d i k ∧ own_end cs d i k ≤ i + k
  | 0, i => by simp [own_end]
  | k + 1, i => by
    have h := own_end_bd cs d k (i + 1)
    simp only [own_end]
    split <;> omega
theorem own_end_at (cs : List Int32) (d : Int32) : ∀ k i, own_end cs d i k < i + k → cs.getD (own_end cs d i k) 0 = d
  | 0, i => by simp [own_end]
  | k + 1, i => by
    have h := own_end_at cs d k (i + 1)
    simp only [own_end]
    split
    · rename_i q; intro _; exact q
    · intro q; exact h (by omega)
theorem own_end_no (cs : List Int32) (d : Int32) : ∀ k i j, i ≤ j → j < own_end cs d i k → ¬ cs.getD j 0 = d
  | 0, i, j => by intro h1 h2; simp only [own_end] at h2; omega
  | k + 1, i, j => by
    intro h1 h2
    simp only [own_end] at h2
    split at h2
    · omega
    · rename_i q
      by_cases e : i = j
      · subst e; exact q
      · exact own_end_no cs d k (i + 1) j (by omega) h2
theorem own_ixk_end (cs : List Int32) (d : Int32) : ∀ k i, own_ixk cs d i k = if own_end cs d i k < i + k then Int32.ofNat (own_end cs d i k) else -1
  | 0, i => by simp [own_end, own_ixk]
  | k + 1, i => by
    simp only [own_end, own_ixk]
    split
    · rw [if_pos (by omega)]
    · rw [own_ixk_end cs d k (i + 1), show i + 1 + k = i + (k + 1) by omega]
theorem own_lo8_inj {x y : Int32} (hx : ¬ x < 0 ∧ ¬ (255 : Int32) < x) (hy : ¬ y < 0 ∧ ¬ (255 : Int32) < y) (h : x.toInt8.toInt32 = y.toInt8.toInt32) : x = y := by
  rw [Int32.lt_iff_toInt_lt, Int32.lt_iff_toInt_lt] at hx hy
  have e1 : (0 : Int32).toInt = 0 := by decide
  have e2 : (255 : Int32).toInt = 255 := by decide
  rw [e1, e2] at hx hy
  have q := congrArg Int32.toInt h
  rw [Int8.toInt_toInt32, Int8.toInt_toInt32, Int32.toInt_toInt8, Int32.toInt_toInt8] at q
  refine Int32.toInt_inj.mp ?_
  simp only [Int.bmod_def] at q
  omega
theorem own_b8_get (cs : List Int32) {i : Nat} (h : i < cs.length) (h2 : cs.length ≤ 4000) : (own_b8 cs).getD (Int32.ofNat i).toNatClampNeg (.int 0) = .int (cs.getD i 0).toInt8.toInt32 := by
  rw [own_clamp (by omega), own_b8, List.map_map]
  simp [List.getD_eq_getElem?_getD, List.getElem?_map, List.getElem?_eq_getElem h]
theorem own_mem (cs : List Int32) {i : Nat} (h : i < cs.length) : cs.getD i 0 ∈ cs := by
  simp [List.getD_eq_getElem?_getD, List.getElem?_eq_getElem h]
theorem own_enc_bad {cs : List Int32} {d : Int32} (h : own_enc d = 0) (hb : ∀ c ∈ cs, ¬ c < 0 ∧ ¬ (255 : Int32) < c) : ∀ k i, i + k ≤ cs.length → own_ixk cs d i k = -1
  | 0, i => fun _ => rfl
  | k + 1, i => fun q => by
    have m := hb _ (own_mem cs (i := i) (by omega))
    have n : ¬ cs.getD i 0 = d := fun e => by
      rw [e] at m
      rw [own_enc, if_neg m.1, if_neg m.2] at h
      exact absurd h (by decide)
    rw [own_ixk, if_neg n]
    exact own_enc_bad h hb k (i + 1) (by omega)
theorem own_enc_ok {d : Int32} (h : ¬ own_enc d = 0) : ¬ d < 0 ∧ ¬ (255 : Int32) < d := by
  unfold own_enc at h
  split at h
  · exact absurd rfl h
  · split at h
    · exact absurd rfl h
    · exact ⟨by assumption, by assumption⟩
theorem own_ixk_neg {cs : List Int32} {d : Int32} {i k : Nat} (hn : i + k < 2147483648) (h : own_ixk cs d i k < 0) : own_end cs d i k = i + k := by
  rw [own_ixk_end] at h
  have b := own_end_bd cs d k i
  split at h
  · exact absurd h (own_nneg _ (by omega))
  · omega
theorem own_ixk_pos {cs : List Int32} {d : Int32} {i k : Nat} (h : ¬ own_ixk cs d i k < 0) : Int32.ofNat (own_end cs d i k) = own_ixk cs d i k := by
  rw [own_ixk_end] at h ⊢
  split at h
  · rw [if_pos (by assumption)]
  · exact absurd (by decide) h
def own_endOf (cs : List Int32) (d : Int32) (f t : Nat) : Nat := if d = (-1 : Int32) then t else own_end cs d f (t - f)
theorem own_endOf_bd {cs : List Int32} {d : Int32} {f t : Nat} (h : f ≤ t) : f ≤ own_endOf cs d f t ∧ own_endOf cs d f t ≤ t := by
  have b := own_end_bd cs d (t - f) f
  unfold own_endOf
  split <;> omega


def own_pr (i : Nat) : Int32 := Int32.ofNat i - (1 : Int32)
theorem own_prS (k : Nat) : own_pr (k + 1) = Int32.ofNat k := by
  rw [own_pr, ← own_inc]
  exact Int32.add_sub_cancel _ _
theorem own_prd (k : Nat) : own_pr (k + 1) + (-1 : Int32) = own_pr k := by
  rw [own_prS, own_pr]
  exact (Int32.sub_eq_add_neg _ _).symm
theorem own_pr0 : own_pr 0 = (-1 : Int32) := by decide
def own_lx (cs : List Int32) (d : Int32) : Nat → Int32
  | 0 => -1
  | k + 1 => if cs.getD k 0 = d then Int32.ofNat k else own_lx cs d k
def own_ln (cs : List Int32) (d : Int32) : Nat → Nat
  | 0 => 0
  | k + 1 => if cs.getD k 0 = d then k + 1 else own_ln cs d k
theorem own_lx1 (cs : List Int32) (d : Int32) : ∀ k, own_lx cs d k + (1 : Int32) = Int32.ofNat (own_ln cs d k)
  | 0 => by show (-1 : Int32) + (1 : Int32) = Int32.ofNat 0; decide
  | k + 1 => by
    rw [own_lx, own_ln]
    split
    · exact own_inc k
    · exact own_lx1 cs d k
theorem own_ln_le (cs : List Int32) (d : Int32) : ∀ k, own_ln cs d k ≤ k
  | 0 => Nat.le_refl _
  | k + 1 => by
    have := own_ln_le cs d k
    rw [own_ln]
    split <;> omega
theorem own_drep (m : Nat) (d : Value) : (List.replicate m d).drop m = [] := by simp
theorem own_minself (x : Int32) : own_min x x = x := by unfold own_min; split <;> rfl
theorem own_subn {a b : Nat} (h : b ≤ a) (ha : a < 2147483648) : Int32.ofNat a - Int32.ofNat b = Int32.ofNat (a - b) := by
  apply Int32.toInt_inj.mp
  rw [own_toI (by omega), Int32.toInt_sub, own_toI ha, own_toI (by omega), Int.bmod_def]
  split <;> omega
theorem own_addn {a b : Nat} : Int32.ofNat a + Int32.ofNat b = Int32.ofNat (a + b) := (Int32.ofNat_add a b).symm
theorem own_b8_len (cs : List Int32) : (own_b8 cs).length = cs.length := by simp [own_b8]
theorem own_b8_sub (cs : List Int32) {b m : Nat} (h : b + m ≤ cs.length) (h2 : cs.length ≤ 8) : own_b8 ((cs.drop b).take m) = (List.range (Int32.ofNat m).toNatClampNeg).map fun i => (own_b8 cs).getD ((Int32.ofNat b).toNatClampNeg + i) (.int 0) := by
  rw [own_clamp (by omega), own_clamp (by omega)]
  apply List.ext_getElem?
  intro i
  by_cases hi : i < m
  · rw [List.getElem?_map, List.getElem?_range hi]
    simp only [own_b8, List.getD_eq_getElem?_getD, List.getElem?_map, List.map_map]
    rw [List.getElem?_take_of_lt hi, List.getElem?_drop]
    simp [List.getElem?_eq_getElem (show b + i < cs.length by omega)]
  · rw [List.getElem?_eq_none (by rw [own_b8_len, List.length_take]; omega), List.getElem?_eq_none (by simp; omega)]
theorem own_pads (m : Nat) (vs : List Value) (d : Value) (hv : vs.length = m) : ([] : List Value).take 0 ++ vs ++ (List.replicate m d).drop m = vs := by simp


theorem own_mind {a m : Nat} (h : m ≤ a) (ha : a < 2147483648) : own_min (Int32.ofNat a) (Int32.ofNat m) = Int32.ofNat m := by
  unfold own_min
  split
  · rfl
  · rename_i q; have := own_nltI q (by omega) (by omega); rw [show a = m by omega]
theorem own_sub0 (cs : List Int32) (b : Nat) {m : Nat} (h : m = 0) : ([] : List Int32) = (cs.drop b).take m := by rw [h, List.take_zero]
theorem own_sublen (cs : List Int32) {b m : Nat} (h : b + m ≤ cs.length) : ((cs.drop b).take m).length = m := by rw [List.length_take, List.length_drop]; omega
theorem own_subb (cs : List Int32) (b m : Nat) (h : cs.length ≤ 8) (hb : ∀ c ∈ cs, ¬ c < 0 ∧ ¬ (255 : Int32) < c) : ((cs.drop b).take m).length ≤ 4000 ∧ ∀ c ∈ (cs.drop b).take m, ¬ c < 0 ∧ ¬ (255 : Int32) < c :=
  ⟨by rw [List.length_take, List.length_drop]; omega, fun c hc => hb c (List.mem_of_mem_drop (List.mem_of_mem_take hc))⟩
theorem own_drop0 (cs : List Int32) {b : Nat} (h : b = 0) : cs = cs.drop b := by rw [h]; rfl
theorem own_dropt (cs : List Int32) (b : Nat) : (cs.drop b).take (cs.length - b) = cs.drop b := List.take_of_length_le (by rw [List.length_drop]; exact Nat.le_refl _)


def own_pk (p : Int32) : Int32 := if (p &&& (1 : Int32)) = (0 : Int32) then (47 : Int32) else (((p.toUInt32 >>> ((1 : Int32) &&& 31).toUInt32).toInt32) &&& (255 : Int32))
theorem own_pkb (p : Int32) : ¬ own_pk p < 0 ∧ ¬ (255 : Int32) < own_pk p := by
  unfold own_pk
  split
  · decide
  · exact own_c255 _


theorem own_lxS (cs : List Int32) (d : Int32) (k : Nat) : own_lx cs d (k + 1) = if cs.getD k 0 = d then Int32.ofNat k else own_lx cs d k := rfl
theorem own_lxp (cs : List Int32) (d : Int32) (k : Nat) : own_lx cs d k = own_pr (own_ln cs d k) := by
  rw [own_pr, ← own_lx1]
  exact (Int32.add_sub_cancel _ _).symm
theorem own_prI {k : Nat} (h : k < 4000) : (own_pr k).toInt = (k : Int) - 1 := by
  rw [own_pr, Int32.toInt_sub, own_toI (by omega), show (1 : Int32).toInt = 1 by decide, Int.bmod_def]
  split <;> omega
theorem own_lenk (cs : List Int32) (d : Int32) (h : cs.length ≤ 8) : Int32.ofNat (cs.drop (own_ln cs d cs.length)).length = (Int32.ofNat cs.length - own_lx cs d cs.length) - (1 : Int32) := by
  have l := own_ln_le cs d cs.length
  rw [own_lxp, List.length_drop]
  apply Int32.toInt_inj.mp
  rw [own_toI (by omega), Int32.toInt_sub, Int32.toInt_sub, own_toI (by omega), own_prI (by omega), show (1 : Int32).toInt = 1 by decide]
  simp only [Int.bmod_def]
  split <;> split <;> omega
theorem own_atlt {kv : Int32} {kn j : Nat} (h : kv < Int32.ofNat j) (e : kv = own_pr kn) (hk : kn ≤ 8) (hj : j < 4) : kn ≤ j := by
  rw [e, Int32.lt_iff_toInt_lt, own_prI (by omega), own_toI (by omega)] at h
  omega
theorem own_atix {kv : Int32} {kn j : Nat} (e : kv = own_pr kn) (h : kn ≤ j) (hj : j < 4) : ((Int32.ofNat j - kv) - (1 : Int32)) = Int32.ofNat (j - kn) := by
  apply Int32.toInt_inj.mp
  rw [e, own_toI (by omega), Int32.toInt_sub, Int32.toInt_sub, own_toI (by omega), own_prI (by omega), show (1 : Int32).toInt = 1 by decide]
  simp only [Int.bmod_def]
  split <;> split <;> omega
theorem own_dropget (cs : List Int32) {kn j : Nat} (h : kn ≤ j) : (cs.drop kn).getD (j - kn) 0 = cs.getD j 0 := by
  simp only [List.getD_eq_getElem?_getD, List.getElem?_drop]
  rw [show kn + (j - kn) = j by omega]
def own_cv (cs : List Int32) : List Value := cs.map Value.int
theorem own_cvget (cs : List Int32) {i : Nat} (h : i < cs.length) (h2 : cs.length ≤ 4000) : (own_cv cs).getD (Int32.ofNat i).toNatClampNeg (.int (0 : Int32)) = .int (cs.getD i 0) := by
  rw [own_clamp (by omega)]
  simp [own_cv, List.getD_eq_getElem?_getD, List.getElem?_map, List.getElem?_eq_getElem h]
theorem own_mod5 (x : Int32) : ∃ n : Int32, ((x &&& (7 : Int32)) % (5 : Int32)) = n ∧ (n = 0 ∨ n = 1 ∨ n = 2 ∨ n = 3 ∨ n = 4) := by
  have h : (x &&& (7 : Int32)).toBitVec.toNat ≤ 7 := by
    show ((x.toBitVec &&& 7#32)).toNat ≤ 7
    rw [BitVec.toNat_and]
    exact Nat.and_le_right
  have q : ∀ n : Nat, (x &&& (7 : Int32)).toBitVec.toNat = n → n < 4294967296 → (x &&& (7 : Int32)) = Int32.ofBitVec (BitVec.ofNat 32 n) := fun n e hn => by
    apply Int32.toBitVec_inj.mp
    apply BitVec.eq_of_toNat_eq
    rw [e]
    show n = n % 4294967296
    omega
  refine ⟨_, rfl, ?_⟩
  have c : (x &&& (7 : Int32)).toBitVec.toNat = 0 ∨ (x &&& (7 : Int32)).toBitVec.toNat = 1 ∨ (x &&& (7 : Int32)).toBitVec.toNat = 2 ∨ (x &&& (7 : Int32)).toBitVec.toNat = 3 ∨ (x &&& (7 : Int32)).toBitVec.toNat = 4 ∨ (x &&& (7 : Int32)).toBitVec.toNat = 5 ∨ (x &&& (7 : Int32)).toBitVec.toNat = 6 ∨ (x &&& (7 : Int32)).toBitVec.toNat = 7 := by omega
  rcases c with c | c | c | c | c | c | c | c <;> rw [q _ c (by omega)] <;> decide

theorem ef_min (m : MethodId) (x0 : Int32) (x1 : Int32) : entryFrame m #[(.int x0), (.int x1)] 2 = mkF m 0 #[.val (.int x0), .val (.int x1)] [] := by first | (simp [entryFrame, mkF, argsToLocals, Value.category]; done) | rfl
def Q_min (Z : State) (p : Int32) (q : Int32) (h0 : Heap) (n0 : Nat) (vV : Option Value) (h : Heap) (LL : List Loc) : Prop := vV = some (.int (own_min p q)) ∧ LL = [] ∧ h = h0
set_option maxRecDepth 65536 in
set_option maxHeartbeats 40000000 in
theorem rm_min (l : Launch) (Z : State) (a0 : Array Value) (hw : ∀ d ∈ tables_1, d.before a0 Z = true) (ws : List Jvm.Cond) (p : Int32) (q : Int32) (h0 : Heap) (n0 : Nat) (O0 : Old Z n0 h0) :
    MetFree l (⟨"java/lang/Math", "min", "(II)I"⟩ : MethodName) (head1 (Jvm.Cond.code (⟨"java/lang/Math", "min", "(II)I"⟩ : MethodName) jdk_29_method_69_code 2 (some .int) :: ws) ({ frames := 0, cells := 0, slots := 0, locals := 0 } : Room)) (fun aa_ U => aa_ = #[(.int p), (.int q)] ∧ Z.Warmed39 U.vm ∧ U.heap = h0) (fun _ _ _ _ _ => True) (fun _ U o U' => ∃ vV LL, o = .returned vV ∧ Q_min Z p q h0 n0 vV U'.heap LL ∧ FrameEnd U o U' LL ({ frames := 0, cells := 0, slots := 0, locals := 0 } : Room).cells ({ frames := 0, cells := 0, slots := 0, locals := 0 } : Room).slots) := by
  refine MetFree.of_bodySF (Jvm.Free.JP.mathPlain rfl (by decide +kernel)) hisR ?_
  intro pP eE sS mM args below meth cC s₁ Bd hml0 hP hK
  obtain ⟨rfl, hZ, hh⟩ := hP
  have hx := Bd.exec
  have hby := Bd.bytes
  have hml : cC.maxLocals = 2 := hml0
  have hown : sS.vm.findClass "java/lang/Math" = some mM.cls := findClass_of_methodNamed Bd.named
  have hnm := (name_of_methodNamed Bd.named Bd.method).1
  have X0 : Stand pP l eE ({ frames := 0, cells := 0, slots := 0, locals := 0 } : Room) sS mM #[(.int p), (.int q)] below meth cC s₁ [] 0 0 := Stand.of_body Bd
  have e0 : s₁.heap = h0 := by rw [← hh, Bd.state]; rfl
  have N0 := Fr.nil n0
  have pre0 : ∀ tg, Steps pP.tables eE below (s₁.setTop (mkF mM 0 #[.val (.int p), .val (.int q)] [])) tg → Steps pP.tables eE below (s₁.setTop (entryFrame mM #[(.int p), (.int q)] 2)) tg := fun tg kg => castTop (ef_min mM p q) kg
  have pre2 : ∀ tg, Steps pP.tables eE below (s₁.setTop (mkF mM 2 #[.val (.int p), .val (.int q)] [(.int q), (.int p)])) tg → Steps pP.tables eE below (s₁.setTop (entryFrame mM #[(.int p), (.int q)] 2)) tg := fun tg kg => pre0 tg (by
    refine XS.iloadN X0.here hx rfl (hb hby d_jdk_29_method_69_0) rfl ?_
    show Steps pP.tables eE below (s₁.setTop (mkF mM 1 #[.val (.int p), .val (.int q)] [(.int p)])) _
    refine XS.iloadN X0.here hx rfl (hb hby d_jdk_29_method_69_1) rfl ?_
    exact kg)
  by_cases hc1 : q < p
  · obtain ⟨fs, hr, hrun, hended, hW, hsame⟩ := X0.leave (v := some (.int q)) (fun h => by rw [Bd.returns] at h; cases h)
    refine ⟨_, _, pre2 _ ?_, hrun, hended, _, _, rfl, ?_, ⟨_, rfl⟩, hW, hsame.mono (by decide) (by decide)⟩
    · refine XS.icmpYes X0.here hx rfl (pc0 := 2) (pc' := 9) rfl (hb hby d_jdk_29_method_69_2) rfl (tlt hc1).2.2.1 (by decide) (by decide) ?_
      show Steps pP.tables eE below (s₁.setTop (mkF mM 9 #[.val (.int p), .val (.int q)] [])) _
      refine XS.iloadN X0.here hx rfl (hb hby d_jdk_29_method_69_9) rfl ?_
      show Steps pP.tables eE below (s₁.setTop (mkF mM 10 #[.val (.int p), .val (.int q)] [(.int q)])) _
      exact retI X0 hx Bd.returns (hb hby d_jdk_29_method_69_10) hr
    · show Q_min Z p q h0 n0 _ s₁.heap _
      rw [e0]
      exact ⟨(by rw [own_min, if_pos hc1]), rfl, rfl⟩
  · obtain ⟨fs, hr, hrun, hended, hW, hsame⟩ := X0.leave (v := some (.int p)) (fun h => by rw [Bd.returns] at h; cases h)
    refine ⟨_, _, pre2 _ ?_, hrun, hended, _, _, rfl, ?_, ⟨_, rfl⟩, hW, hsame.mono (by decide) (by decide)⟩
    · refine XS.icmpNo X0.here hx rfl (hb hby d_jdk_29_method_69_2) rfl (flt hc1).2.2.1 ?_
      show Steps pP.tables eE below (s₁.setTop (mkF mM 5 #[.val (.int p), .val (.int q)] [])) _
      refine XS.iloadN X0.here hx rfl (hb hby d_jdk_29_method_69_5) rfl ?_
      show Steps pP.tables eE below (s₁.setTop (mkF mM 6 #[.val (.int p), .val (.int q)] [(.int p)])) _
      refine XS.goto X0.here hx rfl (pc0 := 6) (pc' := 10) rfl (hb hby d_jdk_29_method_69_6) (by decide) (by decide) ?_
      show Steps pP.tables eE below (s₁.setTop (mkF mM 10 #[.val (.int p), .val (.int q)] [(.int p)])) _
      exact retI X0 hx Bd.returns (hb hby d_jdk_29_method_69_10) hr
    · show Q_min Z p q h0 n0 _ s₁.heap _
      rw [e0]
      exact ⟨(by rw [own_min, if_neg hc1]), rfl, rfl⟩
theorem ef_enc (m : MethodId) (x0 : Int32) : entryFrame m #[(.int x0)] 1 = mkF m 0 #[.val (.int x0)] [] := by first | (simp [entryFrame, mkF, argsToLocals, Value.category]; done) | rfl
def Q_enc (Z : State) (p : Int32) (h0 : Heap) (n0 : Nat) (vV : Option Value) (h : Heap) (LL : List Loc) : Prop := vV = some (.int (own_enc p)) ∧ LL = [] ∧ h = h0
set_option maxRecDepth 65536 in
set_option maxHeartbeats 40000000 in
theorem rm_enc (l : Launch) (Z : State) (a0 : Array Value) (hw : ∀ d ∈ tables_1, d.before a0 Z = true) (ws : List Jvm.Cond) (p : Int32) (h0 : Heap) (n0 : Nat) (O0 : Old Z n0 h0) :
    MetFree l (⟨"java/lang/StringLatin1", "canEncode", "(I)Z"⟩ : MethodName) (head1 (Jvm.Cond.code (⟨"java/lang/StringLatin1", "canEncode", "(I)Z"⟩ : MethodName) jdk_43_method_4_code 1 (some .boolean) :: ws) ({ frames := 0, cells := 0, slots := 0, locals := 0 } : Room)) (fun aa_ U => aa_ = #[(.int p)] ∧ Z.Warmed39 U.vm ∧ U.heap = h0) (fun _ _ _ _ _ => True) (fun _ U o U' => ∃ vV LL, o = .returned vV ∧ Q_enc Z p h0 n0 vV U'.heap LL ∧ FrameEnd U o U' LL ({ frames := 0, cells := 0, slots := 0, locals := 0 } : Room).cells ({ frames := 0, cells := 0, slots := 0, locals := 0 } : Room).slots) := by
  refine MetFree.of_bodySF (plainFor_of_name pn_0) hisR ?_
  intro pP eE sS mM args below meth cC s₁ Bd hml0 hP hK
  obtain ⟨rfl, hZ, hh⟩ := hP
  have hx := Bd.exec
  have hby := Bd.bytes
  have hml : cC.maxLocals = 1 := hml0
  have hown : sS.vm.findClass "java/lang/StringLatin1" = some mM.cls := findClass_of_methodNamed Bd.named
  have hnm := (name_of_methodNamed Bd.named Bd.method).1
  have X0 : Stand pP l eE ({ frames := 0, cells := 0, slots := 0, locals := 0 } : Room) sS mM #[(.int p)] below meth cC s₁ [] 0 0 := Stand.of_body Bd
  have e0 : s₁.heap = h0 := by rw [← hh, Bd.state]; rfl
  have N0 := Fr.nil n0
  have pre0 : ∀ tg, Steps pP.tables eE below (s₁.setTop (mkF mM 0 #[.val (.int p)] [])) tg → Steps pP.tables eE below (s₁.setTop (entryFrame mM #[(.int p)] 1)) tg := fun tg kg => castTop (ef_enc mM p) kg
  have pre2 : ∀ tg, Steps pP.tables eE below (s₁.setTop (mkF mM 1 #[.val (.int p)] [(.int p)])) tg → Steps pP.tables eE below (s₁.setTop (entryFrame mM #[(.int p)] 1)) tg := fun tg kg => pre0 tg (by
    refine XS.iloadN X0.here hx rfl (hb hby d_jdk_43_method_4_0) rfl ?_
    exact kg)
  by_cases hc1 : p < (0 : Int32)
  · obtain ⟨fs, hr, hrun, hended, hW, hsame⟩ := X0.leave (v := some (.int (0 : Int32))) (fun h => by rw [Bd.returns] at h; cases h)
    refine ⟨_, _, pre2 _ ?_, hrun, hended, _, _, rfl, ?_, ⟨_, rfl⟩, hW, hsame.mono (by decide) (by decide)⟩
    · refine XS.ifYes X0.here hx rfl (pc0 := 1) (pc' := 15) rfl (hb hby d_jdk_43_method_4_1) rfl ((if0 _ _).trans (tlt hc1).1) (by decide) (by decide) ?_
      show Steps pP.tables eE below (s₁.setTop (mkF mM 15 #[.val (.int p)] [])) _
      refine XS.iconst X0.here hx rfl (hb hby d_jdk_43_method_4_15) ?_
      show Steps pP.tables eE below (s₁.setTop (mkF mM 16 #[.val (.int p)] [(.int (0 : Int32))])) _
      exact retN X0 hx (t := .boolean) Bd.returns (by simp) (hb hby d_jdk_43_method_4_16) hr
    · show Q_enc Z p h0 n0 _ s₁.heap _
      rw [e0]
      exact ⟨(by rw [own_enc, if_pos hc1]), rfl, rfl⟩
  · have pre5 : ∀ tg, Steps pP.tables eE below (s₁.setTop (mkF mM 8 #[.val (.int p)] [(.int (255 : Int32)), (.int p)])) tg → Steps pP.tables eE below (s₁.setTop (entryFrame mM #[(.int p)] 1)) tg := fun tg kg => pre2 tg (by
      refine XS.ifNo X0.here hx rfl (hb hby d_jdk_43_method_4_1) rfl ((if0 _ _).trans (flt hc1).1) ?_
      show Steps pP.tables eE below (s₁.setTop (mkF mM 4 #[.val (.int p)] [])) _
      refine XS.iloadN X0.here hx rfl (hb hby d_jdk_43_method_4_4) rfl ?_
      show Steps pP.tables eE below (s₁.setTop (mkF mM 5 #[.val (.int p)] [(.int p)])) _
      refine XS.sipush X0.here hx rfl (hb hby d_jdk_43_method_4_5) ?_
      exact kg)
    by_cases hc4 : (255 : Int32) < p
    · obtain ⟨fs, hr, hrun, hended, hW, hsame⟩ := X0.leave (v := some (.int (0 : Int32))) (fun h => by rw [Bd.returns] at h; cases h)
      refine ⟨_, _, pre5 _ ?_, hrun, hended, _, _, rfl, ?_, ⟨_, rfl⟩, hW, hsame.mono (by decide) (by decide)⟩
      · refine XS.icmpYes X0.here hx rfl (pc0 := 8) (pc' := 15) rfl (hb hby d_jdk_43_method_4_8) rfl (tlt hc4).2.2.1 (by decide) (by decide) ?_
        show Steps pP.tables eE below (s₁.setTop (mkF mM 15 #[.val (.int p)] [])) _
        refine XS.iconst X0.here hx rfl (hb hby d_jdk_43_method_4_15) ?_
        show Steps pP.tables eE below (s₁.setTop (mkF mM 16 #[.val (.int p)] [(.int (0 : Int32))])) _
        exact retN X0 hx (t := .boolean) Bd.returns (by simp) (hb hby d_jdk_43_method_4_16) hr
      · show Q_enc Z p h0 n0 _ s₁.heap _
        rw [e0]
        exact ⟨(by rw [own_enc, if_neg hc1, if_pos hc4]), rfl, rfl⟩
    · obtain ⟨fs, hr, hrun, hended, hW, hsame⟩ := X0.leave (v := some (.int (1 : Int32))) (fun h => by rw [Bd.returns] at h; cases h)
      refine ⟨_, _, pre5 _ ?_, hrun, hended, _, _, rfl, ?_, ⟨_, rfl⟩, hW, hsame.mono (by decide) (by decide)⟩
      · refine XS.icmpNo X0.here hx rfl (hb hby d_jdk_43_method_4_8) rfl (flt hc4).2.2.1 ?_
        show Steps pP.tables eE below (s₁.setTop (mkF mM 11 #[.val (.int p)] [])) _
        refine XS.iconst X0.here hx rfl (hb hby d_jdk_43_method_4_11) ?_
        show Steps pP.tables eE below (s₁.setTop (mkF mM 12 #[.val (.int p)] [(.int (1 : Int32))])) _
        refine XS.goto X0.here hx rfl (pc0 := 12) (pc' := 16) rfl (hb hby d_jdk_43_method_4_12) (by decide) (by decide) ?_
        show Steps pP.tables eE below (s₁.setTop (mkF mM 16 #[.val (.int p)] [(.int (1 : Int32))])) _
        exact retN X0 hx (t := .boolean) Bd.returns (by simp) (hb hby d_jdk_43_method_4_16) hr
      · show Q_enc Z p h0 n0 _ s₁.heap _
        rw [e0]
        exact ⟨(by rw [own_enc, if_neg hc1, if_neg hc4]), rfl, rfl⟩
theorem ef_lat (m : MethodId) (x0 : Addr) : entryFrame m #[(.ref x0)] 1 = mkF m 0 #[.val (.ref x0)] [] := by first | (simp [entryFrame, mkF, argsToLocals, Value.category]; done) | rfl
def Q_lat (Z : State) (x : Addr) (zc : Int32) (h0 : Heap) (n0 : Nat) (vV : Option Value) (h : Heap) (LL : List Loc) : Prop := vV = some (.int (1 : Int32)) ∧ LL = [] ∧ h = h0
set_option maxRecDepth 65536 in
set_option maxHeartbeats 40000000 in
theorem rm_lat (l : Launch) (Z : State) (a0 : Array Value) (hw : ∀ d ∈ tables_1, d.before a0 Z = true) (ws : List Jvm.Cond) (x : Addr) (zc : Int32) (h0 : Heap) (n0 : Nat) (O0 : Old Z n0 h0) (F_x_coder : Fld Z h0 x "java/lang/String" "coder" "B" (.int (0 : Int32))) (S_COMPACT_STRINGS : Sta Z Z.heap "java/lang/String" "COMPACT_STRINGS" "Z" (.int zc)) (hp2 : (¬ (zc = (0 : Int32)))) :
    MetFree l (⟨"java/lang/String", "isLatin1", "()Z"⟩ : MethodName) (head1 (Jvm.Cond.code (⟨"java/lang/String", "isLatin1", "()Z"⟩ : MethodName) jdk_42_method_154_code 1 (some .boolean) :: ws) ({ frames := 0, cells := 0, slots := 0, locals := 0 } : Room)) (fun aa_ U => aa_ = #[(.ref x)] ∧ Z.Warmed39 U.vm ∧ U.heap = h0) (fun _ _ _ _ _ => True) (fun _ U o U' => ∃ vV LL, o = .returned vV ∧ Q_lat Z x zc h0 n0 vV U'.heap LL ∧ FrameEnd U o U' LL ({ frames := 0, cells := 0, slots := 0, locals := 0 } : Room).cells ({ frames := 0, cells := 0, slots := 0, locals := 0 } : Room).slots) := by
  refine MetFree.of_bodySF (plainFor_of_name pn_1) hisR ?_
  intro pP eE sS mM args below meth cC s₁ Bd hml0 hP hK
  obtain ⟨rfl, hZ, hh⟩ := hP
  have hx := Bd.exec
  have hby := Bd.bytes
  have hml : cC.maxLocals = 1 := hml0
  have hown : sS.vm.findClass "java/lang/String" = some mM.cls := findClass_of_methodNamed Bd.named
  have hnm := (name_of_methodNamed Bd.named Bd.method).1
  have X0 : Stand pP l eE ({ frames := 0, cells := 0, slots := 0, locals := 0 } : Room) sS mM #[(.ref x)] below meth cC s₁ [] 0 0 := Stand.of_body Bd
  have e0 : s₁.heap = h0 := by rw [← hh, Bd.state]; rfl
  have N0 := Fr.nil n0
  have pre0 : ∀ tg, Steps pP.tables eE below (s₁.setTop (mkF mM 0 #[.val (.ref x)] [])) tg → Steps pP.tables eE below (s₁.setTop (entryFrame mM #[(.ref x)] 1)) tg := fun tg kg => castTop (ef_lat mM x) kg
  obtain ⟨T1, X1, e1, st1⟩ := getS2 X0 hx hZ hown (host := "") (Or.inl (w_63 hw)) Via.refl e0 (Sta.ext (O0).2 S_COMPACT_STRINGS) (g := (mkF mM 0 #[.val (.ref x)] [])) rfl (hb hby d_jdk_42_method_154_0)
  obtain ⟨T2, X2, e2, st2⟩ := getF X1 hx hZ hown (host := "") (Or.inl (w_25 hw)) Via.refl e1 F_x_coder (g := (mkF mM 7 #[.val (.ref x)] [(.ref x)])) rfl rfl (hb hby d_jdk_42_method_154_7)
  obtain ⟨fs, hr, hrun, hended, hW, hsame⟩ := X2.leave (v := some (.int (1 : Int32))) (fun h => by rw [Bd.returns] at h; cases h)
  refine ⟨_, _, pre0 _ ?_, hrun, hended, _, _, rfl, ?_, ⟨_, rfl⟩, hW, hsame.mono (by decide) (by decide)⟩
  · refine st1 _ ?_
    show Steps pP.tables eE below (T1.setTop (mkF mM 3 #[.val (.ref x)] [(.int zc)])) _
    refine XS.ifNo X1.here hx rfl (hb hby d_jdk_42_method_154_3) rfl ((if0 _ _).trans (feq hp2).1) ?_
    show Steps pP.tables eE below (T1.setTop (mkF mM 6 #[.val (.ref x)] [])) _
    refine XS.aloadN X1.here hx rfl (hb hby d_jdk_42_method_154_6) rfl rfl ?_
    show Steps pP.tables eE below (T1.setTop (mkF mM 7 #[.val (.ref x)] [(.ref x)])) _
    refine st2 _ ?_
    show Steps pP.tables eE below (T2.setTop (mkF mM 10 #[.val (.ref x)] [(.int (0 : Int32))])) _
    refine XS.ifNo X2.here hx rfl (hb hby d_jdk_42_method_154_10) rfl ((if0 _ _).trans (teq (by decide : (0 : Int32) = (0 : Int32))).2) ?_
    show Steps pP.tables eE below (T2.setTop (mkF mM 13 #[.val (.ref x)] [])) _
    refine XS.iconst X2.here hx rfl (hb hby d_jdk_42_method_154_13) ?_
    show Steps pP.tables eE below (T2.setTop (mkF mM 14 #[.val (.ref x)] [(.int (1 : Int32))])) _
    refine XS.goto X2.here hx rfl (pc0 := 14) (pc' := 18) rfl (hb hby d_jdk_42_method_154_14) (by decide) (by decide) ?_
    show Steps pP.tables eE below (T2.setTop (mkF mM 18 #[.val (.ref x)] [(.int (1 : Int32))])) _
    exact retN X2 hx (t := .boolean) Bd.returns (by simp) (hb hby d_jdk_42_method_154_18) hr
  · show Q_lat Z x zc h0 n0 _ T2.heap _
    rw [e2]
    exact ⟨rfl, rfl, rfl⟩
theorem ef_se4 (m : MethodId) (x0 : Addr) (x1 : Addr) (x2 : Int32) (x3 : Int32) : entryFrame m #[(.ref x0), (.ref x1), (.int x2), (.int x3), .null] 6 = mkF m 0 #[.val (.ref x0), .val (.ref x1), .val (.int x2), .val (.int x3), .val .null, .unset] [] := by first | (simp [entryFrame, mkF, argsToLocals, Value.category]; done) | rfl
def Q_se4 (Z : State) (x : Addr) (b : Addr) (u1 : Value) (u2 : Value) (h0 : Heap) (n0 : Nat) (vV : Option Value) (h : Heap) (LL : List Loc) : Prop := ∃ (t : Addr) (k : ClassId), vV = none ∧ Fr n0 LL ∧ Keep h0 h [x] ∧ own_Str Z h x t k []
set_option maxRecDepth 65536 in
set_option maxHeartbeats 40000000 in
theorem rm_se4 (l : Launch) (Z : State) (a0 : Array Value) (hw : ∀ d ∈ tables_1, d.before a0 Z = true) (ws : List Jvm.Cond) (x : Addr) (b : Addr) (u1 : Value) (u2 : Value) (h0 : Heap) (n0 : Nat) (O0 : Old Z n0 h0) (E_x : Exa Z h0 x "java/lang/String") (F_x_value : Fld Z h0 x "java/lang/String" "value" "[B" u1) (F_x_coder : Fld Z h0 x "java/lang/String" "coder" "B" u2) (g_x : n0 ≤ x) :
    MetFree l (⟨"java/lang/String", "<init>", "([CIILjava/lang/Void;)V"⟩ : MethodName) (head1 (Jvm.Cond.code (⟨"java/lang/String", "<init>", "([CIILjava/lang/Void;)V"⟩ : MethodName) jdk_42_method_149_code 6 none :: ws) ({ frames := 1, cells := 4, slots := 8, locals := 12 } : Room)) (fun aa_ U => aa_ = #[(.ref x), (.ref b), (.int (0 : Int32)), (.int (0 : Int32)), .null] ∧ Z.Warmed39 U.vm ∧ U.heap = h0 ∧ CHv Z own_EL U.vm h0 ∧ ∀ xX_ ∈ ([x] : List Addr), Safe Z own_EL U.vm h0 xX_) (fun _ _ _ _ _ => True) (fun _ U o U' => ∃ vV LL, o = .returned vV ∧ Q_se4 Z x b u1 u2 h0 n0 vV U'.heap LL ∧ CHr Z own_EL U.vm U.heap U'.vm U'.heap ∧ ReturnedEndW U o U' LL ({ frames := 1, cells := 4, slots := 8, locals := 12 } : Room).cells ({ frames := 1, cells := 4, slots := 8, locals := 12 } : Room).slots) := by
  refine MetFree.of_bodySF (plainFor_of_name pn_1) hisR ?_
  intro pP eE sS mM args below meth cC s₁ Bd hml0 hP hK
  obtain ⟨rfl, hZ, hh, hCH, hSf⟩ := hP
  have hx := Bd.exec
  have hby := Bd.bytes
  have hml : cC.maxLocals = 6 := hml0
  have hown : sS.vm.findClass "java/lang/String" = some mM.cls := findClass_of_methodNamed Bd.named
  have hnm := (name_of_methodNamed Bd.named Bd.method).1
  have X0 : Stand pP l eE ({ frames := 1, cells := 4, slots := 8, locals := 12 } : Room) (sS.setVm sS.vm) mM #[(.ref x), (.ref b), (.int (0 : Int32)), (.int (0 : Int32)), .null] below meth cC s₁ [] 0 0 := Stand.of_body Bd
  have e0 : s₁.heap = h0 := by rw [← hh, Bd.state]; rfl
  have N0 := Fr.nil n0
  have pre0 : ∀ tg, Steps pP.tables eE below (s₁.setTop (mkF mM 0 #[.val (.ref x), .val (.ref b), .val (.int (0 : Int32)), .val (.int (0 : Int32)), .val .null, .unset] [])) tg → Steps pP.tables eE below (s₁.setTop (entryFrame mM #[(.ref x), (.ref b), (.int (0 : Int32)), (.int (0 : Int32)), .null] 6)) tg := fun tg kg => castTop (ef_se4 mM x b (0 : Int32) (0 : Int32)) kg
  have K0 : Keep h0 h0 [x] := Keep.refl _ _
  have hZ0 : Z.Warmed39 (sS.setVm sS.vm).vm := hZ
  have hown0 : (sS.setVm sS.vm).vm.findClass "java/lang/String" = some mM.cls := hown
  have hS0 : sS.Since sS.vm 0 := (State.WarmedH.refl sS).since 0
  have hk0 : 0 ≤ h0.size := Nat.zero_le _
  have CH0 : CHr Z own_EL sS.vm h0 sS.vm h0 := CHr.refl hCH
  have hEL := own_EW hw
  have wS := own_wS hw
  have Sf_x : Safe Z own_EL sS.vm h0 x := hSf _ (List.mem_of_getElem? (i := 0) rfl)
  obtain ⟨T1, X1, e1, st1⟩ := initO X0 hx hZ0 hown0 (w_15 hw) (w_16 hw) (w_17 hw) e0 (g := (mkF mM 1 #[.val (.ref x), .val (.ref b), .val (.int (0 : Int32)), .val (.int (0 : Int32)), .val .null, .unset] [(.ref x)])) rfl (by rw [hml]; rfl) rfl (hb hby d_jdk_42_method_149_1) (by decide) (W := 0) (by show 2 * 0 + _ ≤ _; exact Nat.le_of_eq rfl) (by decide)
  obtain ⟨a2, T2, h2, k2, b2, kb2, X2, e2, E2, hS2, hk2, hZ2, hown2, La2, Lb2, Lc2, Ld2, -, -, CHl2, Lit2, Ls2, st2⟩ := ldcCH X1 hx hZ0 hown0 (w_18 hw) wS e1 hS0 hk0 hEL (List.mem_of_getElem? (i := 0) rfl) CH0.1 (vs := []) (z := 0) ⟨by decide, by decide⟩ (by decide) rfl (g := (mkF mM 9 #[.val (.ref x), .val (.ref b), .val (.int (0 : Int32)), .val (.int (0 : Int32)), .val .null, .unset] [(.ref x)])) rfl (hb hby d_jdk_42_method_149_9) (n := 0) (by decide) (by decide) (by decide) (by decide)
  have CH3 : CHr Z own_EL sS.vm h0 T2.vm h2 := CH0.trans (CHl2)
  skip
  have K5 : Keep h0 h2 [x] := K0.ext E2
  have f7 := (CHr.safe CHl2 (E_x).lt Sf_x)
  have ln6 := Ls2 _ f7
  obtain ⟨T8, X8, e8, st8⟩ := getF X2 hx hZ2 hown2 (host := "") (Or.inl (w_24 hw)) Via.refl e2 Lc2 (g := (mkF mM 11 #[.val (.ref x), .val (.ref b), .val (.int (0 : Int32)), .val (.int (0 : Int32)), .val .null, .unset] [(.ref a2), (.ref x)])) rfl rfl (hb hby d_jdk_42_method_149_11)
  have f9 := (F_x_value.ext E2)
  have f10 := (E_x.ext E2)
  obtain ⟨T11, h11, X11, e11, W11, st11⟩ := putF X8 hx hZ2 hown2 (host := "") (Or.inl (w_24 hw)) Via.refl e8 f9 f10 (Or.inr ⟨(w_20 hw), rfl, hnm⟩) (w_6 hw) (ty := (.array .byte)) (by decide) rfl rfl (g := (mkF mM 14 #[.val (.ref x), .val (.ref b), .val (.int (0 : Int32)), .val (.int (0 : Int32)), .val .null, .unset] [(.ref b2), (.ref x)])) rfl rfl (hb hby d_jdk_42_method_149_14)
  have sfp13 := f7
  have CH12 : CHr Z own_EL sS.vm h0 T2.vm h11 := CH3.trans (CHr.wr W11 sfp13 CH3.1)
  have hk14 := Nat.le_trans hk2 (Nat.le_of_eq W11.size.symm)
  have K15 : Keep h0 h11 [x] := K5.wr W11 (Or.inl (List.mem_of_getElem? (i := 0) rfl))
  have Fw11 : Fld Z h11 x "java/lang/String" "value" "[B" (.ref b2) := f9.same W11
  have N11 := Fr.snoc X11 N0 g_x
  obtain ⟨a16, T16, h16, k16, b16, kb16, X16, e16, E16, hS16, hk16, hZ16, hown16, La16, Lb16, Lc16, Ld16, -, -, CHl16, Lit16, Ls16, st16⟩ := ldcCH X11 hx hZ2 hown2 (w_18 hw) wS e11 hS2 hk14 hEL (List.mem_of_getElem? (i := 0) rfl) CH12.1 (vs := []) (z := 0) ⟨by decide, by decide⟩ (by decide) rfl (g := (mkF mM 18 #[.val (.ref x), .val (.ref b), .val (.int (0 : Int32)), .val (.int (0 : Int32)), .val .null, .unset] [(.ref x)])) rfl (hb hby d_jdk_42_method_149_18) (n := 0) (by decide) (by decide) (by decide) (by decide)
  have CH17 : CHr Z own_EL sS.vm h0 T16.vm h16 := CH12.trans (CHl16)
  skip
  have K19 : Keep h0 h16 [x] := K15.ext E16
  have f21 := (CHr.safe CHl16 (Nat.lt_of_lt_of_le (Nat.lt_of_lt_of_le (E_x).lt E2.1) (Nat.le_of_eq W11.size.symm)) (Safe.wr W11 sfp13 CH3.1 f7))
  have ln20 := Ls16 _ f21
  obtain ⟨T22, X22, e22, st22⟩ := getF X16 hx hZ16 hown16 (host := "") (Or.inl (w_25 hw)) Via.refl e16 Lb16 (g := (mkF mM 20 #[.val (.ref x), .val (.ref b), .val (.int (0 : Int32)), .val (.int (0 : Int32)), .val .null, .unset] [(.ref a16), (.ref x)])) rfl rfl (hb hby d_jdk_42_method_149_20)
  have f23 := (((F_x_coder.ext E2).other W11 (Or.inr (slot_ne (Or.inr (w_21 hw)) (Or.inr (w_20 hw)) (by decide) (t := .byte) (t' := (.array .byte)) (by decide) (by decide)))).ext E16)
  have f24 := ((f10.wr W11).ext E16)
  obtain ⟨T25, h25, X25, e25, W25, st25⟩ := putFN X22 hx hZ16 hown16 (w_25 hw) Via.refl e22 f23 f24 (Or.inr ⟨(w_21 hw), rfl, hnm⟩) (w_6 hw) (ty := .byte) (v' := (.int (nar .byte (0 : Int32)))) (by decide) rfl (fits_nar_byte _) (g := (mkF mM 23 #[.val (.ref x), .val (.ref b), .val (.int (0 : Int32)), .val (.int (0 : Int32)), .val .null, .unset] [(.int (0 : Int32)), (.ref x)])) rfl rfl (hb hby d_jdk_42_method_149_23)
  have sfp27 := f21
  have CH26 : CHr Z own_EL sS.vm h0 T16.vm h25 := CH17.trans (CHr.wr W25 sfp27 CH17.1)
  have hk28 := Nat.le_trans hk16 (Nat.le_of_eq W25.size.symm)
  have K29 : Keep h0 h25 [x] := K19.wr W25 (Or.inl (List.mem_of_getElem? (i := 0) rfl))
  have Fw25 : Fld Z h25 x "java/lang/String" "coder" "B" (.int (0 : Int32)) := f23.same W25
  have N25 := Fr.snoc X25 N11 g_x
  have f31 := (f24.wr W25)
  have f32 := ((Fw11.ext E16).other W25 (Or.inr (slot_ne (Or.inr (w_20 hw)) (Or.inr (w_21 hw)) (by decide) (t := (.array .byte)) (t' := .byte) (by decide) (by decide))))
  have f33 := (((Ld2.other W11 (Ne.symm ln6.2)).ext E16).other W25 (Ne.symm ln6.2))
  obtain ⟨fs, hr, hrun, hended, hR1, hR2, hR3, hR4⟩ := Stand.leaveW (s := sS) (vm₁ := T16.vm) X25 hS16 (by rw [e25]; exact hk28) (v := none) (fun _ => rfl)
  refine ⟨_, _, pre0 _ ?_, hrun, hended, _, _, rfl, ?_, ?_, hR1, hR2, hR3, hR4.mono (by decide) (by decide)⟩
  · refine XS.aloadN X0.here hx rfl (hb hby d_jdk_42_method_149_0) rfl rfl ?_
    show Steps pP.tables eE below (s₁.setTop (mkF mM 1 #[.val (.ref x), .val (.ref b), .val (.int (0 : Int32)), .val (.int (0 : Int32)), .val .null, .unset] [(.ref x)])) _
    refine st1 _ ?_
    show Steps pP.tables eE below (T1.setTop (mkF mM 4 #[.val (.ref x), .val (.ref b), .val (.int (0 : Int32)), .val (.int (0 : Int32)), .val .null, .unset] [])) _
    refine XS.iloadN X1.here hx rfl (hb hby d_jdk_42_method_149_4) rfl ?_
    show Steps pP.tables eE below (T1.setTop (mkF mM 5 #[.val (.ref x), .val (.ref b), .val (.int (0 : Int32)), .val (.int (0 : Int32)), .val .null, .unset] [(.int (0 : Int32))])) _
    refine XS.ifNo X1.here hx rfl (hb hby d_jdk_42_method_149_5) rfl ((if0 _ _).trans (teq (by decide : (0 : Int32) = (0 : Int32))).2) ?_
    show Steps pP.tables eE below (T1.setTop (mkF mM 8 #[.val (.ref x), .val (.ref b), .val (.int (0 : Int32)), .val (.int (0 : Int32)), .val .null, .unset] [])) _
    refine XS.aloadN X1.here hx rfl (hb hby d_jdk_42_method_149_8) rfl rfl ?_
    show Steps pP.tables eE below (T1.setTop (mkF mM 9 #[.val (.ref x), .val (.ref b), .val (.int (0 : Int32)), .val (.int (0 : Int32)), .val .null, .unset] [(.ref x)])) _
    refine st2 _ ?_
    show Steps pP.tables eE below (T2.setTop (mkF mM 11 #[.val (.ref x), .val (.ref b), .val (.int (0 : Int32)), .val (.int (0 : Int32)), .val .null, .unset] [(.ref a2), (.ref x)])) _
    refine st8 _ ?_
    show Steps pP.tables eE below (T8.setTop (mkF mM 14 #[.val (.ref x), .val (.ref b), .val (.int (0 : Int32)), .val (.int (0 : Int32)), .val .null, .unset] [(.ref b2), (.ref x)])) _
    refine st11 _ ?_
    show Steps pP.tables eE below (T11.setTop (mkF mM 17 #[.val (.ref x), .val (.ref b), .val (.int (0 : Int32)), .val (.int (0 : Int32)), .val .null, .unset] [])) _
    refine XS.aloadN X11.here hx rfl (hb hby d_jdk_42_method_149_17) rfl rfl ?_
    show Steps pP.tables eE below (T11.setTop (mkF mM 18 #[.val (.ref x), .val (.ref b), .val (.int (0 : Int32)), .val (.int (0 : Int32)), .val .null, .unset] [(.ref x)])) _
    refine st16 _ ?_
    show Steps pP.tables eE below (T16.setTop (mkF mM 20 #[.val (.ref x), .val (.ref b), .val (.int (0 : Int32)), .val (.int (0 : Int32)), .val .null, .unset] [(.ref a16), (.ref x)])) _
    refine st22 _ ?_
    show Steps pP.tables eE below (T22.setTop (mkF mM 23 #[.val (.ref x), .val (.ref b), .val (.int (0 : Int32)), .val (.int (0 : Int32)), .val .null, .unset] [(.int (0 : Int32)), (.ref x)])) _
    refine st25 _ ?_
    show Steps pP.tables eE below (T25.setTop (mkF mM 26 #[.val (.ref x), .val (.ref b), .val (.int (0 : Int32)), .val (.int (0 : Int32)), .val .null, .unset] [])) _
    exact X25.returnOut hx Bd.returns (hb hby d_jdk_42_method_149_26) hr
  · show Q_se4 Z x b u1 u2 h0 n0 _ T25.heap _
    rw [e25]
    exact ⟨b2, kb2, rfl, N25, K29, (⟨f31, f32, Fw25, f33, (⟨by decide, by decide⟩ : ([] : List Int32).length ≤ 4000 ∧ ∀ c ∈ ([] : List Int32), ¬ c < 0 ∧ ¬ (255 : Int32) < c)⟩ : own_Str Z h25 x b2 kb2 [])⟩
  · show CHr Z own_EL sS.vm sS.heap T25.vm T25.heap
    rw [hh, e25]
    exact CH26.trans (CHv.at X25 hZ16 hEL CH26.1)
theorem ef_se1 (m : MethodId) (x0 : Addr) (x1 : Addr) : entryFrame m #[(.ref x0), (.ref x1)] 2 = mkF m 0 #[.val (.ref x0), .val (.ref x1)] [] := by first | (simp [entryFrame, mkF, argsToLocals, Value.category]; done) | rfl
def Q_se1 (Z : State) (x : Addr) (b : Addr) (u1 : Value) (u2 : Value) (kb : ClassId) (h0 : Heap) (n0 : Nat) (vV : Option Value) (h : Heap) (LL : List Loc) : Prop := ∃ (t : Addr) (k : ClassId), vV = none ∧ Fr n0 LL ∧ Keep h0 h [x] ∧ own_Str Z h x t k []
set_option maxRecDepth 65536 in
set_option maxHeartbeats 40000000 in
theorem rm_se1 (l : Launch) (Z : State) (a0 : Array Value) (hw : ∀ d ∈ tables_1, d.before a0 Z = true) (ws : List Jvm.Cond) (x : Addr) (b : Addr) (u1 : Value) (u2 : Value) (kb : ClassId) (h0 : Heap) (n0 : Nat) (O0 : Old Z n0 h0) (E_x : Exa Z h0 x "java/lang/String") (F_x_value : Fld Z h0 x "java/lang/String" "value" "[B" u1) (F_x_coder : Fld Z h0 x "java/lang/String" "coder" "B" u2) (g_x : n0 ≤ x) (V_b : Arv Z h0 b kb .char (0 : Int32) [] (.int (0 : Int32))) :
    MetFree l (⟨"java/lang/String", "<init>", "([C)V"⟩ : MethodName) (head1 (Jvm.Cond.code (⟨"java/lang/String", "<init>", "([C)V"⟩ : MethodName) jdk_42_method_3_code 2 none :: ws) ({ frames := 2, cells := 4, slots := 8, locals := 29 } : Room)) (fun aa_ U => aa_ = #[(.ref x), (.ref b)] ∧ Z.Warmed39 U.vm ∧ U.heap = h0 ∧ CHv Z own_EL U.vm h0 ∧ ∀ xX_ ∈ ([x] : List Addr), Safe Z own_EL U.vm h0 xX_) (fun _ _ _ _ _ => True) (fun _ U o U' => ∃ vV LL, o = .returned vV ∧ Q_se1 Z x b u1 u2 kb h0 n0 vV U'.heap LL ∧ CHr Z own_EL U.vm U.heap U'.vm U'.heap ∧ ReturnedEndW U o U' LL ({ frames := 2, cells := 4, slots := 8, locals := 29 } : Room).cells ({ frames := 2, cells := 4, slots := 8, locals := 29 } : Room).slots) := by
  refine MetFree.of_bodySF (plainFor_of_name pn_1) hisR ?_
  intro pP eE sS mM args below meth cC s₁ Bd hml0 hP hK
  obtain ⟨rfl, hZ, hh, hCH, hSf⟩ := hP
  have hx := Bd.exec
  have hby := Bd.bytes
  have hml : cC.maxLocals = 2 := hml0
  have hown : sS.vm.findClass "java/lang/String" = some mM.cls := findClass_of_methodNamed Bd.named
  have hnm := (name_of_methodNamed Bd.named Bd.method).1
  have X0 : Stand pP l eE ({ frames := 2, cells := 4, slots := 8, locals := 29 } : Room) (sS.setVm sS.vm) mM #[(.ref x), (.ref b)] below meth cC s₁ [] 0 0 := Stand.of_body Bd
  have e0 : s₁.heap = h0 := by rw [← hh, Bd.state]; rfl
  have N0 := Fr.nil n0
  have pre0 : ∀ tg, Steps pP.tables eE below (s₁.setTop (mkF mM 0 #[.val (.ref x), .val (.ref b)] [])) tg → Steps pP.tables eE below (s₁.setTop (entryFrame mM #[(.ref x), (.ref b)] 2)) tg := fun tg kg => castTop (ef_se1 mM x b) kg
  have K0 : Keep h0 h0 [x] := Keep.refl _ _
  have hZ0 : Z.Warmed39 (sS.setVm sS.vm).vm := hZ
  have hown0 : (sS.setVm sS.vm).vm.findClass "java/lang/String" = some mM.cls := hown
  have hS0 : sS.Since sS.vm 0 := (State.WarmedH.refl sS).since 0
  have hk0 : 0 ≤ h0.size := Nat.zero_le _
  have CH0 : CHr Z own_EL sS.vm h0 sS.vm h0 := CHr.refl hCH
  have hEL := own_EW hw
  have wS := own_wS hw
  have Sf_x : Safe Z own_EL sS.vm h0 x := hSf _ (List.mem_of_getElem? (i := 0) rfl)
  obtain ⟨cl1, Ar1, -, S1, Nn1, -, -⟩ := id V_b
  obtain ⟨_, _, ⟨T2, L2, k2, n2⟩, -, X2, hS22, hg22, ⟨Lc2, hQ2, l2, y2, z2, CHl2⟩, st2⟩ := X0.specialBackS hx (y := (⟨"java/lang/String", "<init>", "([CIILjava/lang/Void;)V"⟩ : MethodName)) rfl hown0 (mvT hZ0 (w_11 hw)) (mvT hZ0 (w_12 hw)) (mvT hZ0 (w_14 hw)) (by decide) (own_backOfSH (s := sS) (vm0 := sS.vm) (rm := ({ frames := 1, cells := 4, slots := 8, locals := 12 } : Room)) (W := 0) (rm_se4 l Z a0 hw [] x b u1 u2 h0 n0 O0 E_x F_x_value F_x_coder g_x) hZ0 (w_14 hw) (w_7 hw) (by decide) (by decide) hEL CH0.1 (own_sfS (E_x).lt Sf_x own_sf0)) (g := (mkF mM 6 #[.val (.ref x), .val (.ref b)] [.null, (.int (0 : Int32)), (.int (0 : Int32)), (.ref b), (.ref x)])) rfl (by rw [hml]; rfl) (Steps.refl _) (a := x) (argsL := [(.ref b), (.int (0 : Int32)), (.int (0 : Int32)), .null]) (rest := []) (lenOf pd_0 rfl) rfl (by show 2 * 0 + _ ≤ _; exact Nat.le_of_eq rfl) (hb hby d_jdk_42_method_3_6) (fun _ _ => ⟨rfl, e0, (by decide : 0 + 4 ≤ _), (by decide : 0 + 8 ≤ _)⟩)
  dsimp only [Pt.U, Pt.locs, Pt.cells, Pt.slots] at X2 l2 y2 z2 st2 hQ2 hS22 hg22 CHl2
  subst l2 y2 z2
  have hS2 := foldS hS0 (by rw [e0]; exact hk0) hS22 hg22
  have hZ2 : Z.Warmed39 (sS.setVm T2.vm).vm := State.Warmed39.trans (t := sS.setVm sS.vm) hZ0 hS22.1
  have hown2 : (sS.setVm T2.vm).vm.findClass "java/lang/String" = some mM.cls := by rw [show (sS.setVm T2.vm).vm = T2.vm from rfl, hS22.1.alike.findClass]; exact hown0
  have hk2 : T2.heap.size ≤ T2.heap.size := Nat.le_refl _
  replace X2 : Stand pP l eE ({ frames := 2, cells := 4, slots := 8, locals := 29 } : Room) (sS.setVm T2.vm) mM _ below meth cC T2 _ _ _ := X2
  obtain ⟨t_2, k_2, rfl, Nq2, Kq2, q2_0⟩ := hQ2
  have N2 := Fr.app N0 Nq2
  have CH3 : CHr Z own_EL sS.vm h0 T2.vm T2.heap := CH0.trans (CHl2)
  skip
  have K5 : Keep h0 T2.heap [x] := K0.trans Kq2 (allS (Or.inl (List.mem_of_getElem? (i := 0) rfl)) all0)
  obtain ⟨fs, hr, hrun, hended, hR1, hR2, hR3, hR4⟩ := Stand.leaveW (s := sS) (vm₁ := T2.vm) X2 hS2 (hk2) (v := none) (fun _ => rfl)
  refine ⟨_, _, pre0 _ ?_, hrun, hended, _, _, rfl, ?_, ?_, hR1, hR2, hR3, hR4.mono (by decide) (by decide)⟩
  · refine XS.aloadN X0.here hx rfl (hb hby d_jdk_42_method_3_0) rfl rfl ?_
    show Steps pP.tables eE below (s₁.setTop (mkF mM 1 #[.val (.ref x), .val (.ref b)] [(.ref x)])) _
    refine XS.aloadN X0.here hx rfl (hb hby d_jdk_42_method_3_1) rfl rfl ?_
    show Steps pP.tables eE below (s₁.setTop (mkF mM 2 #[.val (.ref x), .val (.ref b)] [(.ref b), (.ref x)])) _
    refine XS.iconst X0.here hx rfl (hb hby d_jdk_42_method_3_2) ?_
    show Steps pP.tables eE below (s₁.setTop (mkF mM 3 #[.val (.ref x), .val (.ref b)] [(.int (0 : Int32)), (.ref b), (.ref x)])) _
    refine XS.aloadN X0.here hx rfl (hb hby d_jdk_42_method_3_3) rfl rfl ?_
    show Steps pP.tables eE below (s₁.setTop (mkF mM 4 #[.val (.ref x), .val (.ref b)] [(.ref b), (.int (0 : Int32)), (.ref b), (.ref x)])) _
    refine X0.arraylength hx (by rw [e0]; exact Ar1.1) (State.isArrayOf_alike hZ0.alike Ar1.2.1) (g := (mkF mM 4 #[.val (.ref x), .val (.ref b)] [(.ref b), (.int (0 : Int32)), (.ref b), (.ref x)])) rfl rfl (hb hby d_jdk_42_method_3_4) _ ?_
    rw [len_of S1 Nn1]
    show Steps pP.tables eE below (s₁.setTop (mkF mM 5 #[.val (.ref x), .val (.ref b)] [(.int (0 : Int32)), (.int (0 : Int32)), (.ref b), (.ref x)])) _
    refine XS.aconstNull X0.here hx rfl (hb hby d_jdk_42_method_3_5) ?_
    show Steps pP.tables eE below (s₁.setTop (mkF mM 6 #[.val (.ref x), .val (.ref b)] [.null, (.int (0 : Int32)), (.int (0 : Int32)), (.ref b), (.ref x)])) _
    refine st2.trans ?_
    show Steps pP.tables eE below (T2.setTop (mkF mM 9 #[.val (.ref x), .val (.ref b)] [])) _
    exact X2.returnOut hx Bd.returns (hb hby d_jdk_42_method_3_9) hr
  · show Q_se1 Z x b u1 u2 kb h0 n0 _ T2.heap _
    exact ⟨t_2, k_2, rfl, N2, K5, (⟨(q2_0).1, (q2_0).2.1, (q2_0).2.2.1, (q2_0).2.2.2.1, (q2_0).2.2.2.2⟩ : own_Str Z T2.heap x t_2 k_2 [])⟩
  · show CHr Z own_EL sS.vm sS.heap T2.vm T2.heap
    rw [hh]
    exact CH3.trans (CHv.at X2 hZ2 hEL CH3.1)
theorem ef_sbb (m : MethodId) (x0 : Addr) (x1 : Addr) (x2 : Int32) : entryFrame m #[(.ref x0), (.ref x1), (.int x2)] 3 = mkF m 0 #[.val (.ref x0), .val (.ref x1), .val (.int x2)] [] := by first | (simp [entryFrame, mkF, argsToLocals, Value.category]; done) | rfl
def Q_sbb (Z : State) (x : Addr) (b : Addr) (u1 : Value) (u2 : Value) (h0 : Heap) (n0 : Nat) (vV : Option Value) (h : Heap) (LL : List Loc) : Prop := vV = none ∧ Fr n0 LL ∧ Keep h0 h [x] ∧ Exa Z h x "java/lang/String" ∧ Fld Z h x "java/lang/String" "value" "[B" (.ref b) ∧ Fld Z h x "java/lang/String" "coder" "B" (.int (0 : Int32))
set_option maxRecDepth 65536 in
set_option maxHeartbeats 40000000 in
theorem rm_sbb (l : Launch) (Z : State) (a0 : Array Value) (hw : ∀ d ∈ tables_1, d.before a0 Z = true) (ws : List Jvm.Cond) (x : Addr) (b : Addr) (u1 : Value) (u2 : Value) (h0 : Heap) (n0 : Nat) (O0 : Old Z n0 h0) (E_x : Exa Z h0 x "java/lang/String") (F_x_value : Fld Z h0 x "java/lang/String" "value" "[B" u1) (F_x_coder : Fld Z h0 x "java/lang/String" "coder" "B" u2) (g_x : n0 ≤ x) :
    MetFree l (⟨"java/lang/String", "<init>", "([BB)V"⟩ : MethodName) (head1 (Jvm.Cond.code (⟨"java/lang/String", "<init>", "([BB)V"⟩ : MethodName) jdk_42_method_151_code 3 none :: ws) ({ frames := 1, cells := 0, slots := 0, locals := 12 } : Room)) (fun aa_ U => aa_ = #[(.ref x), (.ref b), (.int (0 : Int32))] ∧ Z.Warmed39 U.vm ∧ U.heap = h0) (fun _ _ _ _ _ => True) (fun _ U o U' => ∃ vV LL, o = .returned vV ∧ Q_sbb Z x b u1 u2 h0 n0 vV U'.heap LL ∧ FrameEnd U o U' LL ({ frames := 1, cells := 0, slots := 0, locals := 12 } : Room).cells ({ frames := 1, cells := 0, slots := 0, locals := 12 } : Room).slots) := by
  refine MetFree.of_bodySF (plainFor_of_name pn_1) hisR ?_
  intro pP eE sS mM args below meth cC s₁ Bd hml0 hP hK
  obtain ⟨rfl, hZ, hh⟩ := hP
  have hx := Bd.exec
  have hby := Bd.bytes
  have hml : cC.maxLocals = 3 := hml0
  have hown : sS.vm.findClass "java/lang/String" = some mM.cls := findClass_of_methodNamed Bd.named
  have hnm := (name_of_methodNamed Bd.named Bd.method).1
  have X0 : Stand pP l eE ({ frames := 1, cells := 0, slots := 0, locals := 12 } : Room) sS mM #[(.ref x), (.ref b), (.int (0 : Int32))] below meth cC s₁ [] 0 0 := Stand.of_body Bd
  have e0 : s₁.heap = h0 := by rw [← hh, Bd.state]; rfl
  have N0 := Fr.nil n0
  have pre0 : ∀ tg, Steps pP.tables eE below (s₁.setTop (mkF mM 0 #[.val (.ref x), .val (.ref b), .val (.int (0 : Int32))] [])) tg → Steps pP.tables eE below (s₁.setTop (entryFrame mM #[(.ref x), (.ref b), (.int (0 : Int32))] 3)) tg := fun tg kg => castTop (ef_sbb mM x b (0 : Int32)) kg
  have K0 : Keep h0 h0 [x] := Keep.refl _ _
  obtain ⟨T1, X1, e1, st1⟩ := initO X0 hx hZ hown (w_15 hw) (w_16 hw) (w_17 hw) e0 (g := (mkF mM 1 #[.val (.ref x), .val (.ref b), .val (.int (0 : Int32))] [(.ref x)])) rfl (by rw [hml]; rfl) rfl (hb hby d_jdk_42_method_151_1) (by decide) (W := 0) (by show 2 * 0 + _ ≤ _; exact Nat.le_of_eq rfl) (by decide)
  obtain ⟨T2, h2, X2, e2, W2, st2⟩ := putF X1 hx hZ hown (host := "") (Or.inl (w_24 hw)) Via.refl e1 F_x_value E_x (Or.inr ⟨(w_20 hw), rfl, hnm⟩) (w_6 hw) (ty := (.array .byte)) (by decide) rfl rfl (g := (mkF mM 6 #[.val (.ref x), .val (.ref b), .val (.int (0 : Int32))] [(.ref b), (.ref x)])) rfl rfl (hb hby d_jdk_42_method_151_6)
  have K3 : Keep h0 h2 [x] := K0.wr W2 (Or.inl (List.mem_of_getElem? (i := 0) rfl))
  have Fw2 : Fld Z h2 x "java/lang/String" "value" "[B" (.ref b) := F_x_value.same W2
  have N2 := Fr.snoc X2 N0 g_x
  have f4 := (F_x_coder.other W2 (Or.inr (slot_ne (Or.inr (w_21 hw)) (Or.inr (w_20 hw)) (by decide) (t := .byte) (t' := (.array .byte)) (by decide) (by decide))))
  have f5 := (E_x.wr W2)
  obtain ⟨T6, h6, X6, e6, W6, st6⟩ := putFN X2 hx hZ hown (w_25 hw) Via.refl e2 f4 f5 (Or.inr ⟨(w_21 hw), rfl, hnm⟩) (w_6 hw) (ty := .byte) (v' := (.int (nar .byte (0 : Int32)))) (by decide) rfl (fits_nar_byte _) (g := (mkF mM 11 #[.val (.ref x), .val (.ref b), .val (.int (0 : Int32))] [(.int (0 : Int32)), (.ref x)])) rfl rfl (hb hby d_jdk_42_method_151_11)
  have K7 : Keep h0 h6 [x] := K3.wr W6 (Or.inl (List.mem_of_getElem? (i := 0) rfl))
  have Fw6 : Fld Z h6 x "java/lang/String" "coder" "B" (.int (0 : Int32)) := f4.same W6
  have N6 := Fr.snoc X6 N2 g_x
  have f9 := (f5.wr W6)
  have f10 := (Fw2.other W6 (Or.inr (slot_ne (Or.inr (w_20 hw)) (Or.inr (w_21 hw)) (by decide) (t := (.array .byte)) (t' := .byte) (by decide) (by decide))))
  obtain ⟨fs, hr, hrun, hended, hW, hsame⟩ := X6.leave (v := none) (fun _ => rfl)
  refine ⟨_, _, pre0 _ ?_, hrun, hended, _, _, rfl, ?_, ⟨_, rfl⟩, hW, hsame.mono (by decide) (by decide)⟩
  · refine XS.aloadN X0.here hx rfl (hb hby d_jdk_42_method_151_0) rfl rfl ?_
    show Steps pP.tables eE below (s₁.setTop (mkF mM 1 #[.val (.ref x), .val (.ref b), .val (.int (0 : Int32))] [(.ref x)])) _
    refine st1 _ ?_
    show Steps pP.tables eE below (T1.setTop (mkF mM 4 #[.val (.ref x), .val (.ref b), .val (.int (0 : Int32))] [])) _
    refine XS.aloadN X1.here hx rfl (hb hby d_jdk_42_method_151_4) rfl rfl ?_
    show Steps pP.tables eE below (T1.setTop (mkF mM 5 #[.val (.ref x), .val (.ref b), .val (.int (0 : Int32))] [(.ref x)])) _
    refine XS.aloadN X1.here hx rfl (hb hby d_jdk_42_method_151_5) rfl rfl ?_
    show Steps pP.tables eE below (T1.setTop (mkF mM 6 #[.val (.ref x), .val (.ref b), .val (.int (0 : Int32))] [(.ref b), (.ref x)])) _
    refine st2 _ ?_
    show Steps pP.tables eE below (T2.setTop (mkF mM 9 #[.val (.ref x), .val (.ref b), .val (.int (0 : Int32))] [])) _
    refine XS.aloadN X2.here hx rfl (hb hby d_jdk_42_method_151_9) rfl rfl ?_
    show Steps pP.tables eE below (T2.setTop (mkF mM 10 #[.val (.ref x), .val (.ref b), .val (.int (0 : Int32))] [(.ref x)])) _
    refine XS.iloadN X2.here hx rfl (hb hby d_jdk_42_method_151_10) rfl ?_
    show Steps pP.tables eE below (T2.setTop (mkF mM 11 #[.val (.ref x), .val (.ref b), .val (.int (0 : Int32))] [(.int (0 : Int32)), (.ref x)])) _
    refine st6 _ ?_
    show Steps pP.tables eE below (T6.setTop (mkF mM 14 #[.val (.ref x), .val (.ref b), .val (.int (0 : Int32))] [])) _
    exact X6.returnOut hx Bd.returns (hb hby d_jdk_42_method_151_14) hr
  · show Q_sbb Z x b u1 u2 h0 n0 _ T6.heap _
    rw [e6]
    exact ⟨rfl, N6, K7, f9, f10, Fw6⟩
set_option maxRecDepth 65536 in
set_option maxHeartbeats 40000000 in
theorem lp_li {pP : Program} {l : Launch} {eE : Env} {sS : State} {mM : MethodId} {args : Array Value} {below : List Frame} {meth : Method} {cC : Code} {locs : List Loc} {Z : State} {a0 : Array Value} (t : Addr) (kk : ClassId) (cs : List Int32) (d : Int32) (a2 : Int32) {h0 : Heap} {n0 : Nat} (hx : pP.tables.exec = Jvm.exec) (hZ : Z.Warmed39 sS.vm) (hw : ∀ d ∈ tables_1, d.before a0 Z = true) (hby : cC.code = jdk_43_method_27_code) (hml : cC.maxLocals = 4) (hown : sS.vm.findClass "java/lang/StringLatin1" = some mM.cls) (O0 : Old Z n0 h0) (V_t : Arv Z h0 t kk .byte (Int32.ofNat (cs).length) (own_b8 cs) (.int 0)) (hp1 : (cs.length ≤ 8)) (hp2 : (∀ c ∈ cs, ¬ c < 0 ∧ ¬ (255 : Int32) < c)) (hp3 : (¬ d < 0 ∧ ¬ (255 : Int32) < d)) :
    ∀ (k : Nat) (i : Nat) {T0 : State} (X0 : Stand pP l eE ({ frames := 1, cells := 0, slots := 0, locals := 13 } : Room) sS mM args below meth cC T0 locs 0 0) (e0 : T0.heap = h0) (hik : i = k) (hi : i ≤ cs.length), own_ToP pP l eE ({ frames := 1, cells := 0, slots := 0, locals := 13 } : Room) sS mM args below meth cC locs 0 0 h0 T0 (mkF mM 18 #[.val (.ref t), .val (.int d), .val (.int a2), .val (.int (own_pr i))] []) (fun g' => (∃ Ls, g' = mkF mM 31 Ls [(.int (own_lx cs d i))]) ∨ (∃ Ls, g' = mkF mM 39 Ls [(.int (own_lx cs d i))])) := by
  intro k
  induction k with
  | zero =>
    intro i T0 X0 e0 hik hi
    refine ⟨T0, mkF mM 39 #[.val (.ref t), .val (.int d), .val (.int a2), .val (.int (own_pr i))] [(.int (own_lx cs d i))], Or.inr (⟨_, rfl⟩), X0, e0, fun tg kg => ?_⟩
    rw [show own_lx cs d i = (-1 : Int32) from by subst hik; rfl] at kg
    refine XS.iloadN X0.here hx rfl (hb hby d_jdk_43_method_27_18) rfl ?_
    show Steps pP.tables eE below (T0.setTop (mkF mM 19 #[.val (.ref t), .val (.int d), .val (.int a2), .val (.int (own_pr i))] [(.int (own_pr i))])) _
    refine XS.ifYes X0.here hx rfl (pc0 := 19) (pc' := 38) rfl (hb hby d_jdk_43_method_27_19) rfl ((if0 _ _).trans (tlt (by rw [hik]; decide)).1) (by decide) (by decide) ?_
    show Steps pP.tables eE below (T0.setTop (mkF mM 38 #[.val (.ref t), .val (.int d), .val (.int a2), .val (.int (own_pr i))] [])) _
    refine XS.iconst X0.here hx rfl (hb hby d_jdk_43_method_27_38) ?_
    exact kg
  | succ k ih =>
    intro i T0 X0 e0 hik hi
    obtain ⟨cl1, Ar1, -, S1, Nn1, Hh1, -⟩ := id V_t
    have hin1 : ¬ ((own_pr i) < 0 ∨ cl1.slots.size ≤ ((own_pr i)).toNatClampNeg) := inb_of S1 ⟨by rw [hik, own_prS]; exact own_nneg _ (by omega), by rw [hik, own_prS]; exact own_lt (by omega) (by omega)⟩
    have hat1 : cl1.slots[((own_pr i)).toNatClampNeg]? = some (.int ((cs.getD k 0).toInt8.toInt32)) := Hh1.at hin1 (by rw [hik, own_prS]; exact own_b8_get cs (by omega) (by omega))
    have pre3 : ∀ tg, Steps pP.tables eE below (T0.setTop (mkF mM 27 #[.val (.ref t), .val (.int d), .val (.int a2), .val (.int (own_pr i))] [(.int (d.toInt8.toInt32)), (.int ((cs.getD k 0).toInt8.toInt32))])) tg → Steps pP.tables eE below (T0.setTop (mkF mM 18 #[.val (.ref t), .val (.int d), .val (.int a2), .val (.int (own_pr i))] [])) tg := fun tg kg => (by
      refine XS.iloadN X0.here hx rfl (hb hby d_jdk_43_method_27_18) rfl ?_
      show Steps pP.tables eE below (T0.setTop (mkF mM 19 #[.val (.ref t), .val (.int d), .val (.int a2), .val (.int (own_pr i))] [(.int (own_pr i))])) _
      refine XS.ifNo X0.here hx rfl (hb hby d_jdk_43_method_27_19) rfl ((if0 _ _).trans (flt (by rw [hik, own_prS]; exact own_nneg _ (by omega))).1) ?_
      show Steps pP.tables eE below (T0.setTop (mkF mM 22 #[.val (.ref t), .val (.int d), .val (.int a2), .val (.int (own_pr i))] [])) _
      refine XS.aloadN X0.here hx rfl (hb hby d_jdk_43_method_27_22) rfl rfl ?_
      show Steps pP.tables eE below (T0.setTop (mkF mM 23 #[.val (.ref t), .val (.int d), .val (.int a2), .val (.int (own_pr i))] [(.ref t)])) _
      refine XS.iloadN X0.here hx rfl (hb hby d_jdk_43_method_27_23) rfl ?_
      show Steps pP.tables eE below (T0.setTop (mkF mM 24 #[.val (.ref t), .val (.int d), .val (.int a2), .val (.int (own_pr i))] [(.int (own_pr i)), (.ref t)])) _
      refine X0.baloadBytes hx (j := (own_pr i)) (v := (.int ((cs.getD k 0).toInt8.toInt32))) (by rw [e0]; exact Ar1.1) (State.isArrayOf_alike hZ.alike Ar1.2.1) Ar1.2.2 hin1 hat1 (g := (mkF mM 24 #[.val (.ref t), .val (.int d), .val (.int a2), .val (.int (own_pr i))] [(.int (own_pr i)), (.ref t)])) rfl rfl (hb hby d_jdk_43_method_27_24) _ ?_
      show Steps pP.tables eE below (T0.setTop (mkF mM 25 #[.val (.ref t), .val (.int d), .val (.int a2), .val (.int (own_pr i))] [(.int ((cs.getD k 0).toInt8.toInt32))])) _
      refine XS.iloadN X0.here hx rfl (hb hby d_jdk_43_method_27_25) rfl ?_
      show Steps pP.tables eE below (T0.setTop (mkF mM 26 #[.val (.ref t), .val (.int d), .val (.int a2), .val (.int (own_pr i))] [(.int d), (.int ((cs.getD k 0).toInt8.toInt32))])) _
      refine XS.i2b X0.here hx rfl (hb hby d_jdk_43_method_27_26) rfl ?_
      exact kg)
    by_cases hc2 : ((cs.getD k 0).toInt8.toInt32) = (d.toInt8.toInt32)
    · refine ⟨T0, mkF mM 31 #[.val (.ref t), .val (.int d), .val (.int a2), .val (.int (own_pr i))] [(.int (own_lx cs d i))], Or.inl ⟨_, rfl⟩, X0, e0, fun tg kg => ?_⟩
      rw [show own_lx cs d i = own_pr i from by subst hik; rw [own_prS, own_lx, if_pos (own_lo8_inj (hp2 _ (own_mem cs (i := k) (by omega))) hp3 (hc2))]] at kg
      refine pre3 tg ?_
      refine XS.icmpNo X0.here hx rfl (hb hby d_jdk_43_method_27_27) rfl (teq hc2).2 ?_
      show Steps pP.tables eE below (T0.setTop (mkF mM 30 #[.val (.ref t), .val (.int d), .val (.int a2), .val (.int (own_pr i))] [])) _
      refine XS.iloadN X0.here hx rfl (hb hby d_jdk_43_method_27_30) rfl ?_
      exact kg
    · obtain ⟨T4, g4, hg4, X4, e4, st4⟩ := ih (k) X0 e0 rfl (by omega)
      refine ⟨T4, g4, (by rw [show own_lx cs d i = own_lx cs d k from by subst hik; rw [own_lx, if_neg (fun q => hc2 (by rw [q]))]]; exact hg4), X4, e4, fun tg kg => ?_⟩
      refine pre3 tg ?_
      refine XS.icmpYes X0.here hx rfl (pc0 := 27) (pc' := 32) rfl (hb hby d_jdk_43_method_27_27) rfl (feq hc2).2 (by decide) (by decide) ?_
      show Steps pP.tables eE below (T0.setTop (mkF mM 32 #[.val (.ref t), .val (.int d), .val (.int a2), .val (.int (own_pr i))] [])) _
      refine XS.iinc X0.here hx rfl (hb hby d_jdk_43_method_27_32) rfl (l' := #[.val (.ref t), .val (.int d), .val (.int a2), .val (.int ((own_pr i) + (-1 : Int32)))]) rfl ?_
      show Steps pP.tables eE below (T0.setTop (mkF mM 35 #[.val (.ref t), .val (.int d), .val (.int a2), .val (.int ((own_pr i) + (-1 : Int32)))] [])) _
      refine XS.goto X0.here hx rfl (pc0 := 35) (pc' := 18) rfl (hb hby d_jdk_43_method_27_35) (by decide) (by decide) ?_
      show Steps pP.tables eE below (T0.setTop (mkF mM 18 #[.val (.ref t), .val (.int d), .val (.int a2), .val (.int ((own_pr i) + (-1 : Int32)))] [])) _
      rw [show own_pr i + (-1 : Int32) = own_pr k from by rw [hik]; exact own_prd k]
      exact st4 tg kg
theorem ef_li (m : MethodId) (x0 : Addr) (x1 : Int32) (x2 : Int32) : entryFrame m #[(.ref x0), (.int x1), (.int x2)] 4 = mkF m 0 #[.val (.ref x0), .val (.int x1), .val (.int x2), .unset] [] := by first | (simp [entryFrame, mkF, argsToLocals, Value.category]; done) | rfl
def Q_li (Z : State) (t : Addr) (kk : ClassId) (cs : List Int32) (d : Int32) (h0 : Heap) (n0 : Nat) (vV : Option Value) (h : Heap) (LL : List Loc) : Prop := vV = some (.int (own_lx cs d cs.length)) ∧ LL = [] ∧ h = h0
set_option maxRecDepth 65536 in
set_option maxHeartbeats 40000000 in
theorem rm_li (l : Launch) (Z : State) (a0 : Array Value) (hw : ∀ d ∈ tables_1, d.before a0 Z = true) (ws : List Jvm.Cond) (t : Addr) (kk : ClassId) (cs : List Int32) (d : Int32) (h0 : Heap) (n0 : Nat) (O0 : Old Z n0 h0) (V_t : Arv Z h0 t kk .byte (Int32.ofNat (cs).length) (own_b8 cs) (.int 0)) (hp1 : (cs.length ≤ 8)) (hp2 : (∀ c ∈ cs, ¬ c < 0 ∧ ¬ (255 : Int32) < c)) (hp3 : (¬ d < 0 ∧ ¬ (255 : Int32) < d)) :
    MetFree l (⟨"java/lang/StringLatin1", "lastIndexOf", "([BII)I"⟩ : MethodName) (head1 (Jvm.Cond.code (⟨"java/lang/StringLatin1", "lastIndexOf", "([BII)I"⟩ : MethodName) jdk_43_method_27_code 4 (some .int) :: ws) ({ frames := 1, cells := 0, slots := 0, locals := 13 } : Room)) (fun aa_ U => aa_ = #[(.ref t), (.int d), (.int ((Int32.ofNat (cs).length) - (1 : Int32)))] ∧ Z.Warmed39 U.vm ∧ U.heap = h0) (fun _ _ _ _ _ => True) (fun _ U o U' => ∃ vV LL, o = .returned vV ∧ Q_li Z t kk cs d h0 n0 vV U'.heap LL ∧ FrameEnd U o U' LL ({ frames := 1, cells := 0, slots := 0, locals := 13 } : Room).cells ({ frames := 1, cells := 0, slots := 0, locals := 13 } : Room).slots) := by
  refine MetFree.of_bodySF (plainFor_of_name pn_0) hisR ?_
  intro pP eE sS mM args below meth cC s₁ Bd hml0 hP hK
  obtain ⟨rfl, hZ, hh⟩ := hP
  have hx := Bd.exec
  have hby := Bd.bytes
  have hml : cC.maxLocals = 4 := hml0
  have hown : sS.vm.findClass "java/lang/StringLatin1" = some mM.cls := findClass_of_methodNamed Bd.named
  have hnm := (name_of_methodNamed Bd.named Bd.method).1
  have X0 : Stand pP l eE ({ frames := 1, cells := 0, slots := 0, locals := 13 } : Room) sS mM #[(.ref t), (.int d), (.int ((Int32.ofNat (cs).length) - (1 : Int32)))] below meth cC s₁ [] 0 0 := Stand.of_body Bd
  have e0 : s₁.heap = h0 := by rw [← hh, Bd.state]; rfl
  have N0 := Fr.nil n0
  have pre0 : ∀ tg, Steps pP.tables eE below (s₁.setTop (mkF mM 0 #[.val (.ref t), .val (.int d), .val (.int ((Int32.ofNat (cs).length) - (1 : Int32))), .unset] [])) tg → Steps pP.tables eE below (s₁.setTop (entryFrame mM #[(.ref t), (.int d), (.int ((Int32.ofNat (cs).length) - (1 : Int32)))] 4)) tg := fun tg kg => castTop (ef_li mM t d ((Int32.ofNat (cs).length) - (1 : Int32))) kg
  obtain ⟨_, _, ⟨T1, L1, k1, n1⟩, -, X1, ⟨Lc1, hQ1, l1, y1, z1⟩, st1⟩ := Jvm.LawKit.callS X0 hx (y := (⟨"java/lang/StringLatin1", "canEncode", "(I)Z"⟩ : MethodName)) hown (mvT hZ (w_78 hw)) (mvT hZ (w_79 hw)) (mvT hZ (w_76 hw)) (mvT hZ (w_80 hw)) (by decide) (backOf (W := 0) (rm_enc l Z a0 hw [] d h0 n0 O0 ) hZ (w_80 hw) (w_76 hw) (by decide) (by decide)) (g := (mkF mM 1 #[.val (.ref t), .val (.int d), .val (.int ((Int32.ofNat (cs).length) - (1 : Int32))), .unset] [(.int d)])) rfl (by rw [hml]; rfl) (argsL := [(.int d)]) (rest := []) (lenOf pd_1 rfl) rfl (by show 2 * 0 + _ ≤ _; exact Nat.le_of_eq rfl) (hb hby d_jdk_43_method_27_1) (fun _ _ => ⟨rfl, e0, (by decide : 0 + 0 ≤ _), (by decide : 0 + 0 ≤ _)⟩)
  dsimp only [Pt.U, Pt.locs, Pt.cells, Pt.slots] at X1 l1 y1 z1 st1 hQ1
  subst l1 y1 z1
  obtain ⟨rfl, rfl, Kq1⟩ := hQ1
  try rw [List.append_nil] at X1
  obtain ⟨cl2, Ar2, -, S2, Nn2, -, -⟩ := id V_t
  obtain ⟨_, _, ⟨T3, L3, k3, n3⟩, -, X3, ⟨Lc3, hQ3, l3, y3, z3⟩, st3⟩ := Jvm.LawKit.callS X1 hx (y := (⟨"java/lang/Math", "min", "(II)I"⟩ : MethodName)) hown (mvT hZ (w_81 hw)) (mvT hZ (w_82 hw)) (mvT hZ (w_83 hw)) (mvT hZ (w_84 hw)) (by decide) (backOf (W := 0) (rm_min l Z a0 hw [] ((Int32.ofNat (cs).length) - (1 : Int32)) ((Int32.ofNat (cs).length) - (1 : Int32)) h0 n0 O0 ) hZ (w_84 hw) (w_83 hw) (by decide) (by decide)) (g := (mkF mM 14 #[.val (.ref t), .val (.int d), .val (.int ((Int32.ofNat (cs).length) - (1 : Int32))), .unset] [(.int ((Int32.ofNat (cs).length) - (1 : Int32))), (.int ((Int32.ofNat (cs).length) - (1 : Int32)))])) rfl (by rw [hml]; rfl) (argsL := [(.int ((Int32.ofNat (cs).length) - (1 : Int32))), (.int ((Int32.ofNat (cs).length) - (1 : Int32)))]) (rest := []) (lenOf pd_2 rfl) rfl (by show 2 * 0 + _ ≤ _; exact Nat.le_of_eq rfl) (hb hby d_jdk_43_method_27_14) (fun _ _ => ⟨rfl, Kq1, (by decide : 0 + 0 ≤ _), (by decide : 0 + 0 ≤ _)⟩)
  dsimp only [Pt.U, Pt.locs, Pt.cells, Pt.slots] at X3 l3 y3 z3 st3 hQ3
  subst l3 y3 z3
  obtain ⟨rfl, rfl, Kq3⟩ := hQ3
  try rw [List.append_nil] at X3
  obtain ⟨T4, g4, hg4, X4, e4, st4⟩ := lp_li t kk cs d ((Int32.ofNat (cs).length) - (1 : Int32)) hx hZ hw hby hml hown O0 V_t hp1 hp2 hp3 (cs.length) (cs.length) X3 Kq3 rfl (Nat.le_refl _)
  rcases hg4 with ⟨Lx4, rfl⟩ | ⟨Lx4, rfl⟩
  · obtain ⟨fs, hr, hrun, hended, hW, hsame⟩ := X4.leave (v := some (.int (own_lx cs d cs.length))) (fun h => by rw [Bd.returns] at h; cases h)
    refine ⟨_, _, pre0 _ ?_, hrun, hended, _, _, rfl, ?_, ⟨_, rfl⟩, hW, hsame.mono (by decide) (by decide)⟩
    · refine XS.iloadN X0.here hx rfl (hb hby d_jdk_43_method_27_0) rfl ?_
      show Steps pP.tables eE below (s₁.setTop (mkF mM 1 #[.val (.ref t), .val (.int d), .val (.int ((Int32.ofNat (cs).length) - (1 : Int32))), .unset] [(.int d)])) _
      refine st1 _ ?_
      show Steps pP.tables eE below (T1.setTop (mkF mM 4 #[.val (.ref t), .val (.int d), .val (.int ((Int32.ofNat (cs).length) - (1 : Int32))), .unset] [(.int (own_enc d))])) _
      refine XS.ifYes X1.here hx rfl (pc0 := 4) (pc' := 9) rfl (hb hby d_jdk_43_method_27_4) rfl ((if0 _ _).trans (feq (by rw [own_enc, if_neg hp3.1, if_neg hp3.2]; decide)).2) (by decide) (by decide) ?_
      show Steps pP.tables eE below (T1.setTop (mkF mM 9 #[.val (.ref t), .val (.int d), .val (.int ((Int32.ofNat (cs).length) - (1 : Int32))), .unset] [])) _
      refine XS.iloadN X1.here hx rfl (hb hby d_jdk_43_method_27_9) rfl ?_
      show Steps pP.tables eE below (T1.setTop (mkF mM 10 #[.val (.ref t), .val (.int d), .val (.int ((Int32.ofNat (cs).length) - (1 : Int32))), .unset] [(.int ((Int32.ofNat (cs).length) - (1 : Int32)))])) _
      refine XS.aloadN X1.here hx rfl (hb hby d_jdk_43_method_27_10) rfl rfl ?_
      show Steps pP.tables eE below (T1.setTop (mkF mM 11 #[.val (.ref t), .val (.int d), .val (.int ((Int32.ofNat (cs).length) - (1 : Int32))), .unset] [(.ref t), (.int ((Int32.ofNat (cs).length) - (1 : Int32)))])) _
      refine X1.arraylength hx (by rw [Kq1]; exact Ar2.1) (State.isArrayOf_alike hZ.alike Ar2.2.1) (g := (mkF mM 11 #[.val (.ref t), .val (.int d), .val (.int ((Int32.ofNat (cs).length) - (1 : Int32))), .unset] [(.ref t), (.int ((Int32.ofNat (cs).length) - (1 : Int32)))])) rfl rfl (hb hby d_jdk_43_method_27_11) _ ?_
      rw [len_of S2 Nn2]
      show Steps pP.tables eE below (T1.setTop (mkF mM 12 #[.val (.ref t), .val (.int d), .val (.int ((Int32.ofNat (cs).length) - (1 : Int32))), .unset] [(.int (Int32.ofNat (cs).length)), (.int ((Int32.ofNat (cs).length) - (1 : Int32)))])) _
      refine XS.iconst X1.here hx rfl (hb hby d_jdk_43_method_27_12) ?_
      show Steps pP.tables eE below (T1.setTop (mkF mM 13 #[.val (.ref t), .val (.int d), .val (.int ((Int32.ofNat (cs).length) - (1 : Int32))), .unset] [(.int (1 : Int32)), (.int (Int32.ofNat (cs).length)), (.int ((Int32.ofNat (cs).length) - (1 : Int32)))])) _
      refine XS.isub X1.here hx rfl (hb hby d_jdk_43_method_27_13) rfl ?_
      show Steps pP.tables eE below (T1.setTop (mkF mM 14 #[.val (.ref t), .val (.int d), .val (.int ((Int32.ofNat (cs).length) - (1 : Int32))), .unset] [(.int ((Int32.ofNat (cs).length) - (1 : Int32))), (.int ((Int32.ofNat (cs).length) - (1 : Int32)))])) _
      refine st3 _ ?_
      show Steps pP.tables eE below (T3.setTop (mkF mM 17 #[.val (.ref t), .val (.int d), .val (.int ((Int32.ofNat (cs).length) - (1 : Int32))), .unset] [(.int (own_min ((Int32.ofNat (cs).length) - (1 : Int32)) ((Int32.ofNat (cs).length) - (1 : Int32))))])) _
      rw [show own_min ((Int32.ofNat (cs).length) - (1 : Int32)) ((Int32.ofNat (cs).length) - (1 : Int32)) = own_pr cs.length from own_minself _]
      show Steps pP.tables eE below (T3.setTop (mkF mM 17 #[.val (.ref t), .val (.int d), .val (.int ((Int32.ofNat (cs).length) - (1 : Int32))), .unset] [(.int (own_pr cs.length))])) _
      refine XS.istoreN X3.here hx rfl (hb hby d_jdk_43_method_27_17) rfl (l' := #[.val (.ref t), .val (.int d), .val (.int ((Int32.ofNat (cs).length) - (1 : Int32))), .val (.int (own_pr cs.length))]) rfl ?_
      show Steps pP.tables eE below (T3.setTop (mkF mM 18 #[.val (.ref t), .val (.int d), .val (.int ((Int32.ofNat (cs).length) - (1 : Int32))), .val (.int (own_pr cs.length))] [])) _
      refine st4 _ ?_
      show Steps pP.tables eE below (T4.setTop (mkF mM 31 Lx4 [(.int (own_lx cs d cs.length))])) _
      exact retI X4 hx Bd.returns (hb hby d_jdk_43_method_27_31) hr
    · show Q_li Z t kk cs d h0 n0 _ T4.heap _
      rw [e4]
      exact ⟨rfl, rfl, rfl⟩
  · obtain ⟨fs, hr, hrun, hended, hW, hsame⟩ := X4.leave (v := some (.int (own_lx cs d cs.length))) (fun h => by rw [Bd.returns] at h; cases h)
    refine ⟨_, _, pre0 _ ?_, hrun, hended, _, _, rfl, ?_, ⟨_, rfl⟩, hW, hsame.mono (by decide) (by decide)⟩
    · refine XS.iloadN X0.here hx rfl (hb hby d_jdk_43_method_27_0) rfl ?_
      show Steps pP.tables eE below (s₁.setTop (mkF mM 1 #[.val (.ref t), .val (.int d), .val (.int ((Int32.ofNat (cs).length) - (1 : Int32))), .unset] [(.int d)])) _
      refine st1 _ ?_
      show Steps pP.tables eE below (T1.setTop (mkF mM 4 #[.val (.ref t), .val (.int d), .val (.int ((Int32.ofNat (cs).length) - (1 : Int32))), .unset] [(.int (own_enc d))])) _
      refine XS.ifYes X1.here hx rfl (pc0 := 4) (pc' := 9) rfl (hb hby d_jdk_43_method_27_4) rfl ((if0 _ _).trans (feq (by rw [own_enc, if_neg hp3.1, if_neg hp3.2]; decide)).2) (by decide) (by decide) ?_
      show Steps pP.tables eE below (T1.setTop (mkF mM 9 #[.val (.ref t), .val (.int d), .val (.int ((Int32.ofNat (cs).length) - (1 : Int32))), .unset] [])) _
      refine XS.iloadN X1.here hx rfl (hb hby d_jdk_43_method_27_9) rfl ?_
      show Steps pP.tables eE below (T1.setTop (mkF mM 10 #[.val (.ref t), .val (.int d), .val (.int ((Int32.ofNat (cs).length) - (1 : Int32))), .unset] [(.int ((Int32.ofNat (cs).length) - (1 : Int32)))])) _
      refine XS.aloadN X1.here hx rfl (hb hby d_jdk_43_method_27_10) rfl rfl ?_
      show Steps pP.tables eE below (T1.setTop (mkF mM 11 #[.val (.ref t), .val (.int d), .val (.int ((Int32.ofNat (cs).length) - (1 : Int32))), .unset] [(.ref t), (.int ((Int32.ofNat (cs).length) - (1 : Int32)))])) _
      refine X1.arraylength hx (by rw [Kq1]; exact Ar2.1) (State.isArrayOf_alike hZ.alike Ar2.2.1) (g := (mkF mM 11 #[.val (.ref t), .val (.int d), .val (.int ((Int32.ofNat (cs).length) - (1 : Int32))), .unset] [(.ref t), (.int ((Int32.ofNat (cs).length) - (1 : Int32)))])) rfl rfl (hb hby d_jdk_43_method_27_11) _ ?_
      rw [len_of S2 Nn2]
      show Steps pP.tables eE below (T1.setTop (mkF mM 12 #[.val (.ref t), .val (.int d), .val (.int ((Int32.ofNat (cs).length) - (1 : Int32))), .unset] [(.int (Int32.ofNat (cs).length)), (.int ((Int32.ofNat (cs).length) - (1 : Int32)))])) _
      refine XS.iconst X1.here hx rfl (hb hby d_jdk_43_method_27_12) ?_
      show Steps pP.tables eE below (T1.setTop (mkF mM 13 #[.val (.ref t), .val (.int d), .val (.int ((Int32.ofNat (cs).length) - (1 : Int32))), .unset] [(.int (1 : Int32)), (.int (Int32.ofNat (cs).length)), (.int ((Int32.ofNat (cs).length) - (1 : Int32)))])) _
      refine XS.isub X1.here hx rfl (hb hby d_jdk_43_method_27_13) rfl ?_
      show Steps pP.tables eE below (T1.setTop (mkF mM 14 #[.val (.ref t), .val (.int d), .val (.int ((Int32.ofNat (cs).length) - (1 : Int32))), .unset] [(.int ((Int32.ofNat (cs).length) - (1 : Int32))), (.int ((Int32.ofNat (cs).length) - (1 : Int32)))])) _
      refine st3 _ ?_
      show Steps pP.tables eE below (T3.setTop (mkF mM 17 #[.val (.ref t), .val (.int d), .val (.int ((Int32.ofNat (cs).length) - (1 : Int32))), .unset] [(.int (own_min ((Int32.ofNat (cs).length) - (1 : Int32)) ((Int32.ofNat (cs).length) - (1 : Int32))))])) _
      rw [show own_min ((Int32.ofNat (cs).length) - (1 : Int32)) ((Int32.ofNat (cs).length) - (1 : Int32)) = own_pr cs.length from own_minself _]
      show Steps pP.tables eE below (T3.setTop (mkF mM 17 #[.val (.ref t), .val (.int d), .val (.int ((Int32.ofNat (cs).length) - (1 : Int32))), .unset] [(.int (own_pr cs.length))])) _
      refine XS.istoreN X3.here hx rfl (hb hby d_jdk_43_method_27_17) rfl (l' := #[.val (.ref t), .val (.int d), .val (.int ((Int32.ofNat (cs).length) - (1 : Int32))), .val (.int (own_pr cs.length))]) rfl ?_
      show Steps pP.tables eE below (T3.setTop (mkF mM 18 #[.val (.ref t), .val (.int d), .val (.int ((Int32.ofNat (cs).length) - (1 : Int32))), .val (.int (own_pr cs.length))] [])) _
      refine st4 _ ?_
      show Steps pP.tables eE below (T4.setTop (mkF mM 39 Lx4 [(.int (own_lx cs d cs.length))])) _
      exact retI X4 hx Bd.returns (hb hby d_jdk_43_method_27_39) hr
    · show Q_li Z t kk cs d h0 n0 _ T4.heap _
      rw [e4]
      exact ⟨rfl, rfl, rfl⟩
theorem ef_sli2 (m : MethodId) (x0 : Addr) (x1 : Int32) (x2 : Int32) : entryFrame m #[(.ref x0), (.int x1), (.int x2)] 3 = mkF m 0 #[.val (.ref x0), .val (.int x1), .val (.int x2)] [] := by first | (simp [entryFrame, mkF, argsToLocals, Value.category]; done) | rfl
def Q_sli2 (Z : State) (x : Addr) (t : Addr) (kk : ClassId) (cs : List Int32) (d : Int32) (zc : Int32) (fm : Value) (h0 : Heap) (n0 : Nat) (vV : Option Value) (h : Heap) (LL : List Loc) : Prop := vV = some (.int (own_lx cs d cs.length)) ∧ LL = [] ∧ h = h0
set_option maxRecDepth 65536 in
set_option maxHeartbeats 40000000 in
theorem rm_sli2 (l : Launch) (Z : State) (a0 : Array Value) (hw : ∀ d ∈ tables_1, d.before a0 Z = true) (ws : List Jvm.Cond) (x : Addr) (t : Addr) (kk : ClassId) (cs : List Int32) (d : Int32) (zc : Int32) (fm : Value) (h0 : Heap) (n0 : Nat) (O0 : Old Z n0 h0) (Str_x : own_Str Z h0 x t kk cs) (hp1 : (cs.length ≤ 8)) (hp2 : (¬ d < 0 ∧ ¬ (255 : Int32) < d)) (S_COMPACT_STRINGS : Sta Z Z.heap "java/lang/String" "COMPACT_STRINGS" "Z" (.int zc)) (hp4 : (¬ (zc = (0 : Int32)))) (S_SIOOBE_FORMATTER : Sta Z Z.heap "jdk/internal/util/Preconditions" "SIOOBE_FORMATTER" "Ljava/util/function/BiFunction;" fm) (hp6 : (fm.isRef = true)) :
    MetFree l (⟨"java/lang/String", "lastIndexOf", "(II)I"⟩ : MethodName) (head1 (Jvm.Cond.code (⟨"java/lang/String", "lastIndexOf", "(II)I"⟩ : MethodName) jdk_42_method_83_code 3 (some .int) :: ws) ({ frames := 2, cells := 0, slots := 0, locals := 28 } : Room)) (fun aa_ U => aa_ = #[(.ref x), (.int d), (.int ((Int32.ofNat (cs).length) - (1 : Int32)))] ∧ Z.Warmed39 U.vm ∧ U.heap = h0) (fun _ _ _ _ _ => True) (fun _ U o U' => ∃ vV LL, o = .returned vV ∧ Q_sli2 Z x t kk cs d zc fm h0 n0 vV U'.heap LL ∧ FrameEnd U o U' LL ({ frames := 2, cells := 0, slots := 0, locals := 28 } : Room).cells ({ frames := 2, cells := 0, slots := 0, locals := 28 } : Room).slots) := by
  refine MetFree.of_bodySF (plainFor_of_name pn_1) hisR ?_
  intro pP eE sS mM args below meth cC s₁ Bd hml0 hP hK
  obtain ⟨rfl, hZ, hh⟩ := hP
  have hx := Bd.exec
  have hby := Bd.bytes
  have hml : cC.maxLocals = 3 := hml0
  have hown : sS.vm.findClass "java/lang/String" = some mM.cls := findClass_of_methodNamed Bd.named
  have hnm := (name_of_methodNamed Bd.named Bd.method).1
  have X0 : Stand pP l eE ({ frames := 2, cells := 0, slots := 0, locals := 28 } : Room) sS mM #[(.ref x), (.int d), (.int ((Int32.ofNat (cs).length) - (1 : Int32)))] below meth cC s₁ [] 0 0 := Stand.of_body Bd
  have e0 : s₁.heap = h0 := by rw [← hh, Bd.state]; rfl
  have N0 := Fr.nil n0
  have pre0 : ∀ tg, Steps pP.tables eE below (s₁.setTop (mkF mM 0 #[.val (.ref x), .val (.int d), .val (.int ((Int32.ofNat (cs).length) - (1 : Int32)))] [])) tg → Steps pP.tables eE below (s₁.setTop (entryFrame mM #[(.ref x), (.int d), (.int ((Int32.ofNat (cs).length) - (1 : Int32)))] 3)) tg := fun tg kg => castTop (ef_sli2 mM x d ((Int32.ofNat (cs).length) - (1 : Int32))) kg
  obtain ⟨cq1, kq1, q1a, q1b, q1c⟩ := isOf hZ e0 (Str_x).1
  obtain ⟨_, _, ⟨T1, L1, k1, n1⟩, -, X1, ⟨Lc1, hQ1, l1, y1, z1⟩, st1⟩ := X0.virtualBack hx (y := (⟨"java/lang/String", "isLatin1", "()Z"⟩ : MethodName)) (z := (⟨"java/lang/String", "isLatin1", "()Z"⟩ : MethodName)) hown (mvT hZ (w_69 hw)) (mvT hZ (w_70 hw)) (notFace_of_selects (args := #[]) (mvT hZ (w_72 hw))) (mvT hZ (w_72 hw)) (mvT hZ (w_71 hw)) (by decide) (backOf (W := 0) (rm_lat l Z a0 hw [] x zc h0 n0 O0 (Str_x).2.2.1 S_COMPACT_STRINGS hp4) hZ (w_73 hw) (w_7 hw) (by decide) (by decide)) q1a q1c (g := (mkF mM 1 #[.val (.ref x), .val (.int d), .val (.int ((Int32.ofNat (cs).length) - (1 : Int32)))] [(.ref x)])) rfl (by rw [hml]; rfl) (Steps.refl _) (argsL := []) (rest := []) (lenOf pd_3 rfl) rfl (by show 2 * 0 + _ ≤ _; exact Nat.le_of_eq rfl) (hb hby d_jdk_42_method_83_1) (fun _ _ => ⟨rfl, e0, (by decide : 0 + 0 ≤ _), (by decide : 0 + 0 ≤ _)⟩)
  dsimp only [Pt.U, Pt.locs, Pt.cells, Pt.slots] at X1 l1 y1 z1 st1 hQ1
  subst l1 y1 z1
  obtain ⟨rfl, rfl, Kq1⟩ := hQ1
  try rw [List.append_nil] at X1
  obtain ⟨T2, X2, e2, st2⟩ := getF X1 hx hZ hown (host := "") (Or.inl (w_24 hw)) Via.refl Kq1 (Str_x).2.1 (g := (mkF mM 8 #[.val (.ref x), .val (.int d), .val (.int ((Int32.ofNat (cs).length) - (1 : Int32)))] [(.ref x)])) rfl rfl (hb hby d_jdk_42_method_83_8)
  obtain ⟨_, _, ⟨T3, L3, k3, n3⟩, -, X3, ⟨Lc3, hQ3, l3, y3, z3⟩, st3⟩ := Jvm.LawKit.callS X2 hx (y := (⟨"java/lang/StringLatin1", "lastIndexOf", "([BII)I"⟩ : MethodName)) hown (mvT hZ (w_74 hw)) (mvT hZ (w_75 hw)) (mvT hZ (w_76 hw)) (mvT hZ (w_77 hw)) (by decide) (backOf (W := 0) (rm_li l Z a0 hw [] t kk cs d h0 n0 O0 (Str_x).2.2.2.1 hp1 (Str_x.2.2.2.2.2 : ∀ c ∈ cs, ¬ c < 0 ∧ ¬ (255 : Int32) < c) hp2) hZ (w_77 hw) (w_76 hw) (by decide) (by decide)) (g := (mkF mM 13 #[.val (.ref x), .val (.int d), .val (.int ((Int32.ofNat (cs).length) - (1 : Int32)))] [(.int ((Int32.ofNat (cs).length) - (1 : Int32))), (.int d), (.ref t)])) rfl (by rw [hml]; rfl) (argsL := [(.ref t), (.int d), (.int ((Int32.ofNat (cs).length) - (1 : Int32)))]) (rest := []) (lenOf pd_4 rfl) rfl (by show 2 * 0 + _ ≤ _; exact Nat.le_of_eq rfl) (hb hby d_jdk_42_method_83_13) (fun _ _ => ⟨rfl, e2, (by decide : 0 + 0 ≤ _), (by decide : 0 + 0 ≤ _)⟩)
  dsimp only [Pt.U, Pt.locs, Pt.cells, Pt.slots] at X3 l3 y3 z3 st3 hQ3
  subst l3 y3 z3
  obtain ⟨rfl, rfl, Kq3⟩ := hQ3
  try rw [List.append_nil] at X3
  obtain ⟨fs, hr, hrun, hended, hW, hsame⟩ := X3.leave (v := some (.int (own_lx cs d cs.length))) (fun h => by rw [Bd.returns] at h; cases h)
  refine ⟨_, _, pre0 _ ?_, hrun, hended, _, _, rfl, ?_, ⟨_, rfl⟩, hW, hsame.mono (by decide) (by decide)⟩
  · refine XS.aloadN X0.here hx rfl (hb hby d_jdk_42_method_83_0) rfl rfl ?_
    show Steps pP.tables eE below (s₁.setTop (mkF mM 1 #[.val (.ref x), .val (.int d), .val (.int ((Int32.ofNat (cs).length) - (1 : Int32)))] [(.ref x)])) _
    refine st1.trans ?_
    show Steps pP.tables eE below (T1.setTop (mkF mM 4 #[.val (.ref x), .val (.int d), .val (.int ((Int32.ofNat (cs).length) - (1 : Int32)))] [(.int (1 : Int32))])) _
    refine XS.ifNo X1.here hx rfl (hb hby d_jdk_42_method_83_4) rfl ((if0 _ _).trans (feq (by decide : ¬ ((1 : Int32) = (0 : Int32)))).1) ?_
    show Steps pP.tables eE below (T1.setTop (mkF mM 7 #[.val (.ref x), .val (.int d), .val (.int ((Int32.ofNat (cs).length) - (1 : Int32)))] [])) _
    refine XS.aloadN X1.here hx rfl (hb hby d_jdk_42_method_83_7) rfl rfl ?_
    show Steps pP.tables eE below (T1.setTop (mkF mM 8 #[.val (.ref x), .val (.int d), .val (.int ((Int32.ofNat (cs).length) - (1 : Int32)))] [(.ref x)])) _
    refine st2 _ ?_
    show Steps pP.tables eE below (T2.setTop (mkF mM 11 #[.val (.ref x), .val (.int d), .val (.int ((Int32.ofNat (cs).length) - (1 : Int32)))] [(.ref t)])) _
    refine XS.iloadN X2.here hx rfl (hb hby d_jdk_42_method_83_11) rfl ?_
    show Steps pP.tables eE below (T2.setTop (mkF mM 12 #[.val (.ref x), .val (.int d), .val (.int ((Int32.ofNat (cs).length) - (1 : Int32)))] [(.int d), (.ref t)])) _
    refine XS.iloadN X2.here hx rfl (hb hby d_jdk_42_method_83_12) rfl ?_
    show Steps pP.tables eE below (T2.setTop (mkF mM 13 #[.val (.ref x), .val (.int d), .val (.int ((Int32.ofNat (cs).length) - (1 : Int32)))] [(.int ((Int32.ofNat (cs).length) - (1 : Int32))), (.int d), (.ref t)])) _
    refine st3 _ ?_
    show Steps pP.tables eE below (T3.setTop (mkF mM 16 #[.val (.ref x), .val (.int d), .val (.int ((Int32.ofNat (cs).length) - (1 : Int32)))] [(.int (own_lx cs d cs.length))])) _
    refine XS.goto X3.here hx rfl (pc0 := 16) (pc' := 28) rfl (hb hby d_jdk_42_method_83_16) (by decide) (by decide) ?_
    show Steps pP.tables eE below (T3.setTop (mkF mM 28 #[.val (.ref x), .val (.int d), .val (.int ((Int32.ofNat (cs).length) - (1 : Int32)))] [(.int (own_lx cs d cs.length))])) _
    exact retI X3 hx Bd.returns (hb hby d_jdk_42_method_83_28) hr
  · show Q_sli2 Z x t kk cs d zc fm h0 n0 _ T3.heap _
    rw [Kq3]
    exact ⟨rfl, rfl, rfl⟩
theorem ef_sli (m : MethodId) (x0 : Addr) (x1 : Int32) : entryFrame m #[(.ref x0), (.int x1)] 2 = mkF m 0 #[.val (.ref x0), .val (.int x1)] [] := by first | (simp [entryFrame, mkF, argsToLocals, Value.category]; done) | rfl
def Q_sli (Z : State) (x : Addr) (t : Addr) (kk : ClassId) (cs : List Int32) (d : Int32) (zc : Int32) (fm : Value) (h0 : Heap) (n0 : Nat) (vV : Option Value) (h : Heap) (LL : List Loc) : Prop := vV = some (.int (own_lx cs d cs.length)) ∧ LL = [] ∧ h = h0
set_option maxRecDepth 65536 in
set_option maxHeartbeats 40000000 in
theorem rm_sli (l : Launch) (Z : State) (a0 : Array Value) (hw : ∀ d ∈ tables_1, d.before a0 Z = true) (ws : List Jvm.Cond) (x : Addr) (t : Addr) (kk : ClassId) (cs : List Int32) (d : Int32) (zc : Int32) (fm : Value) (h0 : Heap) (n0 : Nat) (O0 : Old Z n0 h0) (Str_x : own_Str Z h0 x t kk cs) (hp1 : (cs.length ≤ 8)) (hp2 : (¬ d < 0 ∧ ¬ (255 : Int32) < d)) (S_COMPACT_STRINGS : Sta Z Z.heap "java/lang/String" "COMPACT_STRINGS" "Z" (.int zc)) (hp4 : (¬ (zc = (0 : Int32)))) (S_SIOOBE_FORMATTER : Sta Z Z.heap "jdk/internal/util/Preconditions" "SIOOBE_FORMATTER" "Ljava/util/function/BiFunction;" fm) (hp6 : (fm.isRef = true)) :
    MetFree l (⟨"java/lang/String", "lastIndexOf", "(I)I"⟩ : MethodName) (head1 (Jvm.Cond.code (⟨"java/lang/String", "lastIndexOf", "(I)I"⟩ : MethodName) jdk_42_method_82_code 2 (some .int) :: ws) ({ frames := 3, cells := 0, slots := 0, locals := 42 } : Room)) (fun aa_ U => aa_ = #[(.ref x), (.int d)] ∧ Z.Warmed39 U.vm ∧ U.heap = h0) (fun _ _ _ _ _ => True) (fun _ U o U' => ∃ vV LL, o = .returned vV ∧ Q_sli Z x t kk cs d zc fm h0 n0 vV U'.heap LL ∧ FrameEnd U o U' LL ({ frames := 3, cells := 0, slots := 0, locals := 42 } : Room).cells ({ frames := 3, cells := 0, slots := 0, locals := 42 } : Room).slots) := by
  refine MetFree.of_bodySF (plainFor_of_name pn_1) hisR ?_
  intro pP eE sS mM args below meth cC s₁ Bd hml0 hP hK
  obtain ⟨rfl, hZ, hh⟩ := hP
  have hx := Bd.exec
  have hby := Bd.bytes
  have hml : cC.maxLocals = 2 := hml0
  have hown : sS.vm.findClass "java/lang/String" = some mM.cls := findClass_of_methodNamed Bd.named
  have hnm := (name_of_methodNamed Bd.named Bd.method).1
  have X0 : Stand pP l eE ({ frames := 3, cells := 0, slots := 0, locals := 42 } : Room) sS mM #[(.ref x), (.int d)] below meth cC s₁ [] 0 0 := Stand.of_body Bd
  have e0 : s₁.heap = h0 := by rw [← hh, Bd.state]; rfl
  have N0 := Fr.nil n0
  have pre0 : ∀ tg, Steps pP.tables eE below (s₁.setTop (mkF mM 0 #[.val (.ref x), .val (.int d)] [])) tg → Steps pP.tables eE below (s₁.setTop (entryFrame mM #[(.ref x), (.int d)] 2)) tg := fun tg kg => castTop (ef_sli mM x d) kg
  obtain ⟨cq1, kq1, q1a, q1b, q1c⟩ := isOf hZ e0 (Str_x).1
  obtain ⟨_, _, ⟨T1, L1, k1, n1⟩, -, X1, ⟨Lc1, hQ1, l1, y1, z1⟩, st1⟩ := X0.virtualBack hx (y := (⟨"java/lang/String", "length", "()I"⟩ : MethodName)) (z := (⟨"java/lang/String", "length", "()I"⟩ : MethodName)) hown (mvT hZ (w_53 hw)) (mvT hZ (w_54 hw)) (notFace_of_selects (args := #[]) (mvT hZ (w_56 hw))) (mvT hZ (w_56 hw)) (mvT hZ (w_55 hw)) (by decide) (own_len (W := 2) hZ hw (⟨(Str_x).1, (Str_x).2.1, (Str_x).2.2.1, (Str_x).2.2.2.1, (Str_x).2.2.2.2⟩ : own_Str Z h0 x t kk cs) (Sta.ext (O0).2 S_COMPACT_STRINGS) hp4 (by decide) (by decide)) q1a q1c (g := (mkF mM 3 #[.val (.ref x), .val (.int d)] [(.ref x), (.int d), (.ref x)])) rfl (by rw [hml]; rfl) (Steps.refl _) (argsL := []) (rest := [(.int d), (.ref x)]) (lenOf pd_5 rfl) rfl (by show 2 * 0 + _ ≤ _; exact Nat.le_of_eq rfl) (hb hby d_jdk_42_method_82_3) (fun _ _ => ⟨rfl, e0, (by decide : 0 + 0 ≤ _), (by decide : 0 + 0 ≤ _)⟩)
  dsimp only [Pt.U, Pt.locs, Pt.cells, Pt.slots] at X1 l1 y1 z1 st1 hQ1
  subst l1 y1 z1
  obtain ⟨rfl, rfl, Kq1⟩ := hQ1
  try rw [List.append_nil] at X1
  obtain ⟨cq2, kq2, q2a, q2b, q2c⟩ := isOf hZ Kq1 (Str_x).1
  obtain ⟨_, _, ⟨T2, L2, k2, n2⟩, -, X2, ⟨Lc2, hQ2, l2, y2, z2⟩, st2⟩ := X1.virtualBack hx (y := (⟨"java/lang/String", "lastIndexOf", "(II)I"⟩ : MethodName)) (z := (⟨"java/lang/String", "lastIndexOf", "(II)I"⟩ : MethodName)) hown (mvT hZ (w_64 hw)) (mvT hZ (w_65 hw)) (notFace_of_selects (args := #[]) (mvT hZ (w_67 hw))) (mvT hZ (w_67 hw)) (mvT hZ (w_66 hw)) (by decide) (backOf (W := 0) (rm_sli2 l Z a0 hw [] x t kk cs d zc fm h0 n0 O0 (⟨(Str_x).1, (Str_x).2.1, (Str_x).2.2.1, (Str_x).2.2.2.1, (Str_x).2.2.2.2⟩ : own_Str Z h0 x t kk cs) hp1 hp2 S_COMPACT_STRINGS hp4 S_SIOOBE_FORMATTER hp6) hZ (w_68 hw) (w_7 hw) (by decide) (by decide)) q2a q2c (g := (mkF mM 8 #[.val (.ref x), .val (.int d)] [(.int ((Int32.ofNat (cs).length) - (1 : Int32))), (.int d), (.ref x)])) rfl (by rw [hml]; rfl) (Steps.refl _) (argsL := [(.int d), (.int ((Int32.ofNat (cs).length) - (1 : Int32)))]) (rest := []) (lenOf pd_2 rfl) rfl (by show 2 * 0 + _ ≤ _; exact Nat.le_of_eq rfl) (hb hby d_jdk_42_method_82_8) (fun _ _ => ⟨rfl, Kq1, (by decide : 0 + 0 ≤ _), (by decide : 0 + 0 ≤ _)⟩)
  dsimp only [Pt.U, Pt.locs, Pt.cells, Pt.slots] at X2 l2 y2 z2 st2 hQ2
  subst l2 y2 z2
  obtain ⟨rfl, rfl, Kq2⟩ := hQ2
  try rw [List.append_nil] at X2
  obtain ⟨fs, hr, hrun, hended, hW, hsame⟩ := X2.leave (v := some (.int (own_lx cs d cs.length))) (fun h => by rw [Bd.returns] at h; cases h)
  refine ⟨_, _, pre0 _ ?_, hrun, hended, _, _, rfl, ?_, ⟨_, rfl⟩, hW, hsame.mono (by decide) (by decide)⟩
  · refine XS.aloadN X0.here hx rfl (hb hby d_jdk_42_method_82_0) rfl rfl ?_
    show Steps pP.tables eE below (s₁.setTop (mkF mM 1 #[.val (.ref x), .val (.int d)] [(.ref x)])) _
    refine XS.iloadN X0.here hx rfl (hb hby d_jdk_42_method_82_1) rfl ?_
    show Steps pP.tables eE below (s₁.setTop (mkF mM 2 #[.val (.ref x), .val (.int d)] [(.int d), (.ref x)])) _
    refine XS.aloadN X0.here hx rfl (hb hby d_jdk_42_method_82_2) rfl rfl ?_
    show Steps pP.tables eE below (s₁.setTop (mkF mM 3 #[.val (.ref x), .val (.int d)] [(.ref x), (.int d), (.ref x)])) _
    refine st1.trans ?_
    show Steps pP.tables eE below (T1.setTop (mkF mM 6 #[.val (.ref x), .val (.int d)] [(.int (Int32.ofNat (cs).length)), (.int d), (.ref x)])) _
    refine XS.iconst X1.here hx rfl (hb hby d_jdk_42_method_82_6) ?_
    show Steps pP.tables eE below (T1.setTop (mkF mM 7 #[.val (.ref x), .val (.int d)] [(.int (1 : Int32)), (.int (Int32.ofNat (cs).length)), (.int d), (.ref x)])) _
    refine XS.isub X1.here hx rfl (hb hby d_jdk_42_method_82_7) rfl ?_
    show Steps pP.tables eE below (T1.setTop (mkF mM 8 #[.val (.ref x), .val (.int d)] [(.int ((Int32.ofNat (cs).length) - (1 : Int32))), (.int d), (.ref x)])) _
    refine st2.trans ?_
    show Steps pP.tables eE below (T2.setTop (mkF mM 11 #[.val (.ref x), .val (.int d)] [(.int (own_lx cs d cs.length))])) _
    exact retI X2 hx Bd.returns (hb hby d_jdk_42_method_82_11) hr
  · show Q_sli Z x t kk cs d zc fm h0 n0 _ T2.heap _
    rw [Kq2]
    exact ⟨rfl, rfl, rfl⟩
theorem ef_ckl (m : MethodId) (x0 : Int32) (x1 : Int32) : entryFrame m #[(.int x0), (.int x1)] 2 = mkF m 0 #[.val (.int x0), .val (.int x1)] [] := by first | (simp [entryFrame, mkF, argsToLocals, Value.category]; done) | rfl
def Q_ckl (Z : State) (b : Nat) (e : Nat) (h0 : Heap) (n0 : Nat) (vV : Option Value) (h : Heap) (LL : List Loc) : Prop := vV = none ∧ LL = [] ∧ h = h0
set_option maxRecDepth 65536 in
set_option maxHeartbeats 40000000 in
theorem rm_ckl (l : Launch) (Z : State) (a0 : Array Value) (hw : ∀ d ∈ tables_1, d.before a0 Z = true) (ws : List Jvm.Cond) (b : Nat) (e : Nat) (h0 : Heap) (n0 : Nat) (O0 : Old Z n0 h0) (hp0 : (b ≤ e ∧ e ≤ 4000)) :
    MetFree l (⟨"java/util/Arrays", "checkLength", "(II)V"⟩ : MethodName) (head1 (Jvm.Cond.code (⟨"java/util/Arrays", "checkLength", "(II)V"⟩ : MethodName) jdk_65_method_131_code 2 none :: ws) ({ frames := 0, cells := 0, slots := 0, locals := 0 } : Room)) (fun aa_ U => aa_ = #[(.int (Int32.ofNat b)), (.int (Int32.ofNat e))] ∧ Z.Warmed39 U.vm ∧ U.heap = h0) (fun _ _ _ _ _ => True) (fun _ U o U' => ∃ vV LL, o = .returned vV ∧ Q_ckl Z b e h0 n0 vV U'.heap LL ∧ FrameEnd U o U' LL ({ frames := 0, cells := 0, slots := 0, locals := 0 } : Room).cells ({ frames := 0, cells := 0, slots := 0, locals := 0 } : Room).slots) := by
  refine MetFree.of_bodySF (plainFor_of_name pn_2) hisR ?_
  intro pP eE sS mM args below meth cC s₁ Bd hml0 hP hK
  obtain ⟨rfl, hZ, hh⟩ := hP
  have hx := Bd.exec
  have hby := Bd.bytes
  have hml : cC.maxLocals = 2 := hml0
  have hown : sS.vm.findClass "java/util/Arrays" = some mM.cls := findClass_of_methodNamed Bd.named
  have hnm := (name_of_methodNamed Bd.named Bd.method).1
  have X0 : Stand pP l eE ({ frames := 0, cells := 0, slots := 0, locals := 0 } : Room) sS mM #[(.int (Int32.ofNat b)), (.int (Int32.ofNat e))] below meth cC s₁ [] 0 0 := Stand.of_body Bd
  have e0 : s₁.heap = h0 := by rw [← hh, Bd.state]; rfl
  have N0 := Fr.nil n0
  have pre0 : ∀ tg, Steps pP.tables eE below (s₁.setTop (mkF mM 0 #[.val (.int (Int32.ofNat b)), .val (.int (Int32.ofNat e))] [])) tg → Steps pP.tables eE below (s₁.setTop (entryFrame mM #[(.int (Int32.ofNat b)), (.int (Int32.ofNat e))] 2)) tg := fun tg kg => castTop (ef_ckl mM (Int32.ofNat b) (Int32.ofNat e)) kg
  obtain ⟨fs, hr, hrun, hended, hW, hsame⟩ := X0.leave (v := none) (fun _ => rfl)
  refine ⟨_, _, pre0 _ ?_, hrun, hended, _, _, rfl, ?_, ⟨_, rfl⟩, hW, hsame.mono (by decide) (by decide)⟩
  · refine XS.iloadN X0.here hx rfl (hb hby d_jdk_65_method_131_0) rfl ?_
    show Steps pP.tables eE below (s₁.setTop (mkF mM 1 #[.val (.int (Int32.ofNat b)), .val (.int (Int32.ofNat e))] [(.int (Int32.ofNat e))])) _
    refine XS.iloadN X0.here hx rfl (hb hby d_jdk_65_method_131_1) rfl ?_
    show Steps pP.tables eE below (s₁.setTop (mkF mM 2 #[.val (.int (Int32.ofNat b)), .val (.int (Int32.ofNat e))] [(.int (Int32.ofNat b)), (.int (Int32.ofNat e))])) _
    refine XS.icmpYes X0.here hx rfl (pc0 := 2) (pc' := 37) rfl (hb hby d_jdk_65_method_131_2) rfl (flt (own_nlt (by omega) (by omega))).2.1 (by decide) (by decide) ?_
    show Steps pP.tables eE below (s₁.setTop (mkF mM 37 #[.val (.int (Int32.ofNat b)), .val (.int (Int32.ofNat e))] [])) _
    exact X0.returnOut hx Bd.returns (hb hby d_jdk_65_method_131_37) hr
  · show Q_ckl Z b e h0 n0 _ s₁.heap _
    rw [e0]
    exact ⟨rfl, rfl, rfl⟩
theorem ef_crb (m : MethodId) (x0 : Addr) (x1 : Int32) (x2 : Int32) : entryFrame m #[(.ref x0), (.int x1), (.int x2)] 5 = mkF m 0 #[.val (.ref x0), .val (.int x1), .val (.int x2), .unset, .unset] [] := by first | (simp [entryFrame, mkF, argsToLocals, Value.category]; done) | rfl
def Q_crb (Z : State) (t : Addr) (kk : ClassId) (cs : List Int32) (b : Nat) (m : Nat) (h0 : Heap) (n0 : Nat) (vV : Option Value) (h : Heap) (LL : List Loc) : Prop := ∃ (a : Addr) (ka : ClassId), vV = some (.ref a) ∧ Fr n0 LL ∧ Keep h0 h [] ∧ h0.size ≤ a ∧ Arv Z h a ka .byte (Int32.ofNat m) (own_b8 ((cs.drop b).take m)) (.int (0 : Int32))
set_option maxRecDepth 65536 in
set_option maxHeartbeats 40000000 in
theorem rm_crb (l : Launch) (Z : State) (a0 : Array Value) (hw : ∀ d ∈ tables_1, d.before a0 Z = true) (ws : List Jvm.Cond) (t : Addr) (kk : ClassId) (cs : List Int32) (b : Nat) (m : Nat) (h0 : Heap) (n0 : Nat) (O0 : Old Z n0 h0) (V_t : Arv Z h0 t kk .byte (Int32.ofNat (cs).length) (own_b8 cs) (.int 0)) (hp1 : (cs.length ≤ 8)) (hp2 : (∀ c ∈ cs, ¬ c < 0 ∧ ¬ (255 : Int32) < c)) (hp3 : (b + m ≤ cs.length)) :
    MetFree l (⟨"java/util/Arrays", "copyOfRangeByte", "([BII)[B"⟩ : MethodName) (head1 (Jvm.Cond.code (⟨"java/util/Arrays", "copyOfRangeByte", "([BII)[B"⟩ : MethodName) jdk_65_method_133_code 5 (some (.array .byte)) :: ws) ({ frames := 1, cells := 1, slots := 8, locals := 18 } : Room)) (fun aa_ U => aa_ = #[(.ref t), (.int (Int32.ofNat b)), (.int (Int32.ofNat (b + m)))] ∧ Z.Warmed39 U.vm ∧ U.heap = h0) (fun _ _ _ _ _ => True) (fun _ U o U' => ∃ vV LL, o = .returned vV ∧ Q_crb Z t kk cs b m h0 n0 vV U'.heap LL ∧ FrameEnd U o U' LL ({ frames := 1, cells := 1, slots := 8, locals := 18 } : Room).cells ({ frames := 1, cells := 1, slots := 8, locals := 18 } : Room).slots) := by
  refine MetFree.of_bodySF (plainFor_of_name pn_2) hisR ?_
  intro pP eE sS mM args below meth cC s₁ Bd hml0 hP hK
  obtain ⟨rfl, hZ, hh⟩ := hP
  have hx := Bd.exec
  have hby := Bd.bytes
  have hml : cC.maxLocals = 5 := hml0
  have hown : sS.vm.findClass "java/util/Arrays" = some mM.cls := findClass_of_methodNamed Bd.named
  have hnm := (name_of_methodNamed Bd.named Bd.method).1
  have X0 : Stand pP l eE ({ frames := 1, cells := 1, slots := 8, locals := 18 } : Room) sS mM #[(.ref t), (.int (Int32.ofNat b)), (.int (Int32.ofNat (b + m)))] below meth cC s₁ [] 0 0 := Stand.of_body Bd
  have e0 : s₁.heap = h0 := by rw [← hh, Bd.state]; rfl
  have N0 := Fr.nil n0
  have pre0 : ∀ tg, Steps pP.tables eE below (s₁.setTop (mkF mM 0 #[.val (.ref t), .val (.int (Int32.ofNat b)), .val (.int (Int32.ofNat (b + m))), .unset, .unset] [])) tg → Steps pP.tables eE below (s₁.setTop (entryFrame mM #[(.ref t), (.int (Int32.ofNat b)), (.int (Int32.ofNat (b + m)))] 5)) tg := fun tg kg => castTop (ef_crb mM t (Int32.ofNat b) (Int32.ofNat (b + m))) kg
  have K0 : Keep h0 h0 [] := Keep.refl _ _
  obtain ⟨_, _, ⟨T1, L1, k1, n1⟩, -, X1, ⟨Lc1, hQ1, l1, y1, z1⟩, st1⟩ := Jvm.LawKit.callS X0 hx (y := (⟨"java/util/Arrays", "checkLength", "(II)V"⟩ : MethodName)) hown (mvT hZ (w_128 hw)) (mvT hZ (w_129 hw)) (mvT hZ (w_123 hw)) (mvT hZ (w_130 hw)) (by decide) (backOf (W := 0) (rm_ckl l Z a0 hw [] b (b + m) h0 n0 O0 (by omega : b ≤ (b + m) ∧ (b + m) ≤ 4000)) hZ (w_130 hw) (w_123 hw) (by decide) (by decide)) (g := (mkF mM 2 #[.val (.ref t), .val (.int (Int32.ofNat b)), .val (.int (Int32.ofNat (b + m))), .unset, .unset] [(.int (Int32.ofNat (b + m))), (.int (Int32.ofNat b))])) rfl (by rw [hml]; rfl) (argsL := [(.int (Int32.ofNat b)), (.int (Int32.ofNat (b + m)))]) (rest := []) (lenOf pd_6 rfl) rfl (by show 2 * 0 + _ ≤ _; exact Nat.le_of_eq rfl) (hb hby d_jdk_65_method_133_2) (fun _ _ => ⟨rfl, e0, (by decide : 0 + 0 ≤ _), (by decide : 0 + 0 ≤ _)⟩)
  dsimp only [Pt.U, Pt.locs, Pt.cells, Pt.slots] at X1 l1 y1 z1 st1 hQ1
  subst l1 y1 z1
  obtain ⟨rfl, rfl, Kq1⟩ := hQ1
  try rw [List.append_nil] at X1
  obtain ⟨T2, h2, k2, X2, e2, E2, A2, st2⟩ := newP X1 hx hZ (aty := .byte) (w_19 hw) Kq1 (g := (mkF mM 10 #[.val (.ref t), .val (.int (Int32.ofNat b)), .val (.int (Int32.ofNat (b + m))), .val (.int (Int32.ofNat m)), .unset] [(.int (Int32.ofNat m))])) rfl (hb hby d_jdk_65_method_133_10) rfl (own_nneg _ (by omega)) (cap := 8) (by rw [own_clamp (by omega)]; omega) (by decide) (by decide) (by decide)
  obtain ⟨b2, g2⟩ : ∃ z, z = h0.size := ⟨_, rfl⟩
  rw [← g2] at A2 st2
  have g_b2 : n0 ≤ b2 := Nat.le_trans (own_osz O0) (Nat.le_of_eq g2.symm)
  have sz_b2 : h0.size ≤ b2 := Nat.le_trans K0.1 (Nat.le_of_eq g2.symm)
  have K3 : Keep h0 h2 [] := K0.ext E2
  have V2 : Arv Z h2 b2 k2 .byte (Int32.ofNat m) [] (.int (0 : Int32)) := Arv.new A2 (own_nneg _ (by omega))
  have Vp4 : Arv Z h2 b2 k2 .byte (Int32.ofNat m) (List.replicate m (.int (0 : Int32))) (.int (0 : Int32)) := Arv.pad V2 (pad_rep [] (.int (0 : Int32)) m)
  have f6 := (V_t.ext E2)
  obtain ⟨cl5, Ar5, -, S5, Nn5, -, -⟩ := id f6
  have f7 := (O0.ext E2)
  obtain ⟨_, _, ⟨T8, L8, k8, n8⟩, -, X8, ⟨Lc8, hQ8, l8, y8, z8⟩, st8⟩ := Jvm.LawKit.callS X2 hx (y := (⟨"java/lang/Math", "min", "(II)I"⟩ : MethodName)) hown (mvT hZ (w_131 hw)) (mvT hZ (w_82 hw)) (mvT hZ (w_83 hw)) (mvT hZ (w_84 hw)) (by decide) (backOf (W := 4) (rm_min l Z a0 hw [] (Int32.ofNat (cs.length - b)) (Int32.ofNat m) h2 n0 f7 ) hZ (w_84 hw) (w_83 hw) (by decide) (by decide)) (g := (mkF mM 24 #[.val (.ref t), .val (.int (Int32.ofNat b)), .val (.int (Int32.ofNat (b + m))), .val (.int (Int32.ofNat m)), .val (.ref b2)] [(.int (Int32.ofNat m)), (.int (Int32.ofNat (cs.length - b))), (.int (0 : Int32)), (.ref b2), (.int (Int32.ofNat b)), (.ref t)])) rfl (by rw [hml]; rfl) (argsL := [(.int (Int32.ofNat (cs.length - b))), (.int (Int32.ofNat m))]) (rest := [(.int (0 : Int32)), (.ref b2), (.int (Int32.ofNat b)), (.ref t)]) (lenOf pd_2 rfl) rfl (by show 2 * 0 + _ ≤ _; exact Nat.le_of_eq rfl) (hb hby d_jdk_65_method_133_24) (fun _ _ => ⟨rfl, e2, (by decide : 1 + 0 ≤ _), (by decide : 8 + 0 ≤ _)⟩)
  dsimp only [Pt.U, Pt.locs, Pt.cells, Pt.slots] at X8 l8 y8 z8 st8 hQ8
  subst l8 y8 z8
  obtain ⟨rfl, rfl, Kq8⟩ := hQ8
  try rw [List.append_nil] at X8
  obtain ⟨T9, h9, L9, X9, e9, N9, Kc9, Vc9, st9⟩ := cpA X8 hx hZ hown (w_132 hw) (w_135 hw) (w_133 hw) (w_134 hw) Kq8 f6 Vp4 (us := (own_b8 ((cs.drop b).take m))) (Or.inl ⟨rfl, rfl⟩) (own_nneg _ (by omega)) (by decide) (own_nneg _ (by omega)) (by rw [own_clamp (by omega), own_clamp (by omega), own_clamp (by omega)]; omega) (by rw [own_clamp (by omega)]; show 0 + m ≤ m; omega) (own_b8_sub cs hp3 hp1) (by rw [own_clamp (by omega), List.length_replicate]; show 0 + m ≤ m; omega) N0 g_b2 (g := (mkF mM 27 #[.val (.ref t), .val (.int (Int32.ofNat b)), .val (.int (Int32.ofNat (b + m))), .val (.int (Int32.ofNat m)), .val (.ref b2)] [(.int (Int32.ofNat m)), (.int (0 : Int32)), (.ref b2), (.int (Int32.ofNat b)), (.ref t)])) rfl (by rw [hml]; rfl) (rest := []) rfl (hb hby d_jdk_65_method_133_27) (by decide) (W := 0) (by show 2 * 0 + _ ≤ _; exact Nat.le_of_eq rfl) (by simp [nativeFrameWords])
  have K10 : Keep h0 h9 [] := K3.trans Kc9 (allS (Or.inr sz_b2) all0)
  have V9 : Arv Z h9 b2 k2 .byte (Int32.ofNat m) (own_b8 ((cs.drop b).take m)) (.int (0 : Int32)) := (by have q := Vc9; rw [own_clamp (by omega), show (0 : Int32).toNatClampNeg = 0 from rfl, Nat.zero_add] at q; rw [List.take_zero, List.nil_append, own_drep, List.append_nil] at q; exact q)
  obtain ⟨fs, hr, hrun, hended, hW, hsame⟩ := X9.leave (v := some (.ref b2)) (fun h => by rw [Bd.returns] at h; cases h)
  refine ⟨_, _, pre0 _ ?_, hrun, hended, _, _, rfl, ?_, ⟨_, rfl⟩, hW, hsame.mono (by decide) (by decide)⟩
  · refine XS.iloadN X0.here hx rfl (hb hby d_jdk_65_method_133_0) rfl ?_
    show Steps pP.tables eE below (s₁.setTop (mkF mM 1 #[.val (.ref t), .val (.int (Int32.ofNat b)), .val (.int (Int32.ofNat (b + m))), .unset, .unset] [(.int (Int32.ofNat b))])) _
    refine XS.iloadN X0.here hx rfl (hb hby d_jdk_65_method_133_1) rfl ?_
    show Steps pP.tables eE below (s₁.setTop (mkF mM 2 #[.val (.ref t), .val (.int (Int32.ofNat b)), .val (.int (Int32.ofNat (b + m))), .unset, .unset] [(.int (Int32.ofNat (b + m))), (.int (Int32.ofNat b))])) _
    refine st1 _ ?_
    show Steps pP.tables eE below (T1.setTop (mkF mM 5 #[.val (.ref t), .val (.int (Int32.ofNat b)), .val (.int (Int32.ofNat (b + m))), .unset, .unset] [])) _
    refine XS.iloadN X1.here hx rfl (hb hby d_jdk_65_method_133_5) rfl ?_
    show Steps pP.tables eE below (T1.setTop (mkF mM 6 #[.val (.ref t), .val (.int (Int32.ofNat b)), .val (.int (Int32.ofNat (b + m))), .unset, .unset] [(.int (Int32.ofNat (b + m)))])) _
    refine XS.iloadN X1.here hx rfl (hb hby d_jdk_65_method_133_6) rfl ?_
    show Steps pP.tables eE below (T1.setTop (mkF mM 7 #[.val (.ref t), .val (.int (Int32.ofNat b)), .val (.int (Int32.ofNat (b + m))), .unset, .unset] [(.int (Int32.ofNat b)), (.int (Int32.ofNat (b + m)))])) _
    refine XS.isub X1.here hx rfl (hb hby d_jdk_65_method_133_7) rfl ?_
    show Steps pP.tables eE below (T1.setTop (mkF mM 8 #[.val (.ref t), .val (.int (Int32.ofNat b)), .val (.int (Int32.ofNat (b + m))), .unset, .unset] [(.int ((Int32.ofNat (b + m)) - (Int32.ofNat b)))])) _
    rw [show Int32.ofNat (b + m) - Int32.ofNat b = Int32.ofNat m from by rw [own_subn (by omega) (by omega), Nat.add_sub_cancel_left]]
    show Steps pP.tables eE below (T1.setTop (mkF mM 8 #[.val (.ref t), .val (.int (Int32.ofNat b)), .val (.int (Int32.ofNat (b + m))), .unset, .unset] [(.int (Int32.ofNat m))])) _
    refine XS.istoreN X1.here hx rfl (hb hby d_jdk_65_method_133_8) rfl (l' := #[.val (.ref t), .val (.int (Int32.ofNat b)), .val (.int (Int32.ofNat (b + m))), .val (.int (Int32.ofNat m)), .unset]) rfl ?_
    show Steps pP.tables eE below (T1.setTop (mkF mM 9 #[.val (.ref t), .val (.int (Int32.ofNat b)), .val (.int (Int32.ofNat (b + m))), .val (.int (Int32.ofNat m)), .unset] [])) _
    refine XS.iloadN X1.here hx rfl (hb hby d_jdk_65_method_133_9) rfl ?_
    show Steps pP.tables eE below (T1.setTop (mkF mM 10 #[.val (.ref t), .val (.int (Int32.ofNat b)), .val (.int (Int32.ofNat (b + m))), .val (.int (Int32.ofNat m)), .unset] [(.int (Int32.ofNat m))])) _
    refine st2 _ ?_
    show Steps pP.tables eE below (T2.setTop (mkF mM 12 #[.val (.ref t), .val (.int (Int32.ofNat b)), .val (.int (Int32.ofNat (b + m))), .val (.int (Int32.ofNat m)), .unset] [(.ref b2)])) _
    refine XS.astore X2.here hx rfl (hb hby d_jdk_65_method_133_12) rfl rfl (l' := #[.val (.ref t), .val (.int (Int32.ofNat b)), .val (.int (Int32.ofNat (b + m))), .val (.int (Int32.ofNat m)), .val (.ref b2)]) rfl ?_
    show Steps pP.tables eE below (T2.setTop (mkF mM 14 #[.val (.ref t), .val (.int (Int32.ofNat b)), .val (.int (Int32.ofNat (b + m))), .val (.int (Int32.ofNat m)), .val (.ref b2)] [])) _
    refine XS.aloadN X2.here hx rfl (hb hby d_jdk_65_method_133_14) rfl rfl ?_
    show Steps pP.tables eE below (T2.setTop (mkF mM 15 #[.val (.ref t), .val (.int (Int32.ofNat b)), .val (.int (Int32.ofNat (b + m))), .val (.int (Int32.ofNat m)), .val (.ref b2)] [(.ref t)])) _
    refine XS.iloadN X2.here hx rfl (hb hby d_jdk_65_method_133_15) rfl ?_
    show Steps pP.tables eE below (T2.setTop (mkF mM 16 #[.val (.ref t), .val (.int (Int32.ofNat b)), .val (.int (Int32.ofNat (b + m))), .val (.int (Int32.ofNat m)), .val (.ref b2)] [(.int (Int32.ofNat b)), (.ref t)])) _
    refine XS.aload X2.here hx rfl (hb hby d_jdk_65_method_133_16) rfl rfl ?_
    show Steps pP.tables eE below (T2.setTop (mkF mM 18 #[.val (.ref t), .val (.int (Int32.ofNat b)), .val (.int (Int32.ofNat (b + m))), .val (.int (Int32.ofNat m)), .val (.ref b2)] [(.ref b2), (.int (Int32.ofNat b)), (.ref t)])) _
    refine XS.iconst X2.here hx rfl (hb hby d_jdk_65_method_133_18) ?_
    show Steps pP.tables eE below (T2.setTop (mkF mM 19 #[.val (.ref t), .val (.int (Int32.ofNat b)), .val (.int (Int32.ofNat (b + m))), .val (.int (Int32.ofNat m)), .val (.ref b2)] [(.int (0 : Int32)), (.ref b2), (.int (Int32.ofNat b)), (.ref t)])) _
    refine XS.aloadN X2.here hx rfl (hb hby d_jdk_65_method_133_19) rfl rfl ?_
    show Steps pP.tables eE below (T2.setTop (mkF mM 20 #[.val (.ref t), .val (.int (Int32.ofNat b)), .val (.int (Int32.ofNat (b + m))), .val (.int (Int32.ofNat m)), .val (.ref b2)] [(.ref t), (.int (0 : Int32)), (.ref b2), (.int (Int32.ofNat b)), (.ref t)])) _
    refine X2.arraylength hx (by rw [e2]; exact Ar5.1) (State.isArrayOf_alike hZ.alike Ar5.2.1) (g := (mkF mM 20 #[.val (.ref t), .val (.int (Int32.ofNat b)), .val (.int (Int32.ofNat (b + m))), .val (.int (Int32.ofNat m)), .val (.ref b2)] [(.ref t), (.int (0 : Int32)), (.ref b2), (.int (Int32.ofNat b)), (.ref t)])) rfl rfl (hb hby d_jdk_65_method_133_20) _ ?_
    rw [len_of S5 Nn5]
    show Steps pP.tables eE below (T2.setTop (mkF mM 21 #[.val (.ref t), .val (.int (Int32.ofNat b)), .val (.int (Int32.ofNat (b + m))), .val (.int (Int32.ofNat m)), .val (.ref b2)] [(.int (Int32.ofNat (cs).length)), (.int (0 : Int32)), (.ref b2), (.int (Int32.ofNat b)), (.ref t)])) _
    refine XS.iloadN X2.here hx rfl (hb hby d_jdk_65_method_133_21) rfl ?_
    show Steps pP.tables eE below (T2.setTop (mkF mM 22 #[.val (.ref t), .val (.int (Int32.ofNat b)), .val (.int (Int32.ofNat (b + m))), .val (.int (Int32.ofNat m)), .val (.ref b2)] [(.int (Int32.ofNat b)), (.int (Int32.ofNat (cs).length)), (.int (0 : Int32)), (.ref b2), (.int (Int32.ofNat b)), (.ref t)])) _
    refine XS.isub X2.here hx rfl (hb hby d_jdk_65_method_133_22) rfl ?_
    show Steps pP.tables eE below (T2.setTop (mkF mM 23 #[.val (.ref t), .val (.int (Int32.ofNat b)), .val (.int (Int32.ofNat (b + m))), .val (.int (Int32.ofNat m)), .val (.ref b2)] [(.int ((Int32.ofNat (cs).length) - (Int32.ofNat b))), (.int (0 : Int32)), (.ref b2), (.int (Int32.ofNat b)), (.ref t)])) _
    rw [own_subn (show b ≤ cs.length by omega) (by omega)]
    show Steps pP.tables eE below (T2.setTop (mkF mM 23 #[.val (.ref t), .val (.int (Int32.ofNat b)), .val (.int (Int32.ofNat (b + m))), .val (.int (Int32.ofNat m)), .val (.ref b2)] [(.int (Int32.ofNat (cs.length - b))), (.int (0 : Int32)), (.ref b2), (.int (Int32.ofNat b)), (.ref t)])) _
    refine XS.iloadN X2.here hx rfl (hb hby d_jdk_65_method_133_23) rfl ?_
    show Steps pP.tables eE below (T2.setTop (mkF mM 24 #[.val (.ref t), .val (.int (Int32.ofNat b)), .val (.int (Int32.ofNat (b + m))), .val (.int (Int32.ofNat m)), .val (.ref b2)] [(.int (Int32.ofNat m)), (.int (Int32.ofNat (cs.length - b))), (.int (0 : Int32)), (.ref b2), (.int (Int32.ofNat b)), (.ref t)])) _
    refine st8 _ ?_
    show Steps pP.tables eE below (T8.setTop (mkF mM 27 #[.val (.ref t), .val (.int (Int32.ofNat b)), .val (.int (Int32.ofNat (b + m))), .val (.int (Int32.ofNat m)), .val (.ref b2)] [(.int (own_min (Int32.ofNat (cs.length - b)) (Int32.ofNat m))), (.int (0 : Int32)), (.ref b2), (.int (Int32.ofNat b)), (.ref t)])) _
    rw [show own_min (Int32.ofNat (cs.length - b)) (Int32.ofNat m) = Int32.ofNat m from own_mind (by omega) (by omega)]
    show Steps pP.tables eE below (T8.setTop (mkF mM 27 #[.val (.ref t), .val (.int (Int32.ofNat b)), .val (.int (Int32.ofNat (b + m))), .val (.int (Int32.ofNat m)), .val (.ref b2)] [(.int (Int32.ofNat m)), (.int (0 : Int32)), (.ref b2), (.int (Int32.ofNat b)), (.ref t)])) _
    refine st9 _ ?_
    show Steps pP.tables eE below (T9.setTop (mkF mM 30 #[.val (.ref t), .val (.int (Int32.ofNat b)), .val (.int (Int32.ofNat (b + m))), .val (.int (Int32.ofNat m)), .val (.ref b2)] [])) _
    refine XS.aload X9.here hx rfl (hb hby d_jdk_65_method_133_30) rfl rfl ?_
    show Steps pP.tables eE below (T9.setTop (mkF mM 32 #[.val (.ref t), .val (.int (Int32.ofNat b)), .val (.int (Int32.ofNat (b + m))), .val (.int (Int32.ofNat m)), .val (.ref b2)] [(.ref b2)])) _
    jvm_step X9.here [X9.here.top, hx, (hb hby d_jdk_65_method_133_32), X9.method', Bd.returns, Value.isRef, FieldType.isReference]
    first | (intro acts; rw [hr _ acts rfl rfl rfl]) | rw [hr _ _ rfl rfl rfl]
    exact Steps.refl _
  · show Q_crb Z t kk cs b m h0 n0 _ T9.heap _
    rw [e9]
    exact ⟨b2, k2, rfl, N9, K10, sz_b2, V9⟩
theorem ef_cr (m : MethodId) (x0 : Addr) (x1 : Int32) (x2 : Int32) : entryFrame m #[(.ref x0), (.int x1), (.int x2)] 3 = mkF m 0 #[.val (.ref x0), .val (.int x1), .val (.int x2)] [] := by first | (simp [entryFrame, mkF, argsToLocals, Value.category]; done) | rfl
def Q_cr (Z : State) (t : Addr) (kk : ClassId) (cs : List Int32) (b : Nat) (m : Nat) (h0 : Heap) (n0 : Nat) (vV : Option Value) (h : Heap) (LL : List Loc) : Prop := ∃ (a : Addr) (ka : ClassId), vV = some (.ref a) ∧ Fr n0 LL ∧ Keep h0 h [] ∧ h0.size ≤ a ∧ Arv Z h a ka .byte (Int32.ofNat m) (own_b8 ((cs.drop b).take m)) (.int (0 : Int32))
set_option maxRecDepth 65536 in
set_option maxHeartbeats 40000000 in
theorem rm_cr (l : Launch) (Z : State) (a0 : Array Value) (hw : ∀ d ∈ tables_1, d.before a0 Z = true) (ws : List Jvm.Cond) (t : Addr) (kk : ClassId) (cs : List Int32) (b : Nat) (m : Nat) (h0 : Heap) (n0 : Nat) (O0 : Old Z n0 h0) (V_t : Arv Z h0 t kk .byte (Int32.ofNat (cs).length) (own_b8 cs) (.int 0)) (hp1 : (cs.length ≤ 8)) (hp2 : (∀ c ∈ cs, ¬ c < 0 ∧ ¬ (255 : Int32) < c)) (hp3 : (b + m ≤ cs.length)) (hp4 : (0 < b)) :
    MetFree l (⟨"java/util/Arrays", "copyOfRange", "([BII)[B"⟩ : MethodName) (head1 (Jvm.Cond.code (⟨"java/util/Arrays", "copyOfRange", "([BII)[B"⟩ : MethodName) jdk_65_method_132_code 3 (some (.array .byte)) :: ws) ({ frames := 2, cells := 1, slots := 8, locals := 34 } : Room)) (fun aa_ U => aa_ = #[(.ref t), (.int (Int32.ofNat b)), (.int (Int32.ofNat (b + m)))] ∧ Z.Warmed39 U.vm ∧ U.heap = h0) (fun _ _ _ _ _ => True) (fun _ U o U' => ∃ vV LL, o = .returned vV ∧ Q_cr Z t kk cs b m h0 n0 vV U'.heap LL ∧ FrameEnd U o U' LL ({ frames := 2, cells := 1, slots := 8, locals := 34 } : Room).cells ({ frames := 2, cells := 1, slots := 8, locals := 34 } : Room).slots) := by
  refine MetFree.of_bodySF (plainFor_of_name pn_2) hisR ?_
  intro pP eE sS mM args below meth cC s₁ Bd hml0 hP hK
  obtain ⟨rfl, hZ, hh⟩ := hP
  have hx := Bd.exec
  have hby := Bd.bytes
  have hml : cC.maxLocals = 3 := hml0
  have hown : sS.vm.findClass "java/util/Arrays" = some mM.cls := findClass_of_methodNamed Bd.named
  have hnm := (name_of_methodNamed Bd.named Bd.method).1
  have X0 : Stand pP l eE ({ frames := 2, cells := 1, slots := 8, locals := 34 } : Room) sS mM #[(.ref t), (.int (Int32.ofNat b)), (.int (Int32.ofNat (b + m)))] below meth cC s₁ [] 0 0 := Stand.of_body Bd
  have e0 : s₁.heap = h0 := by rw [← hh, Bd.state]; rfl
  have N0 := Fr.nil n0
  have pre0 : ∀ tg, Steps pP.tables eE below (s₁.setTop (mkF mM 0 #[.val (.ref t), .val (.int (Int32.ofNat b)), .val (.int (Int32.ofNat (b + m)))] [])) tg → Steps pP.tables eE below (s₁.setTop (entryFrame mM #[(.ref t), (.int (Int32.ofNat b)), (.int (Int32.ofNat (b + m)))] 3)) tg := fun tg kg => castTop (ef_cr mM t (Int32.ofNat b) (Int32.ofNat (b + m))) kg
  have K0 : Keep h0 h0 [] := Keep.refl _ _
  obtain ⟨_, _, ⟨T1, L1, k1, n1⟩, -, X1, ⟨Lc1, hQ1, l1, y1, z1⟩, st1⟩ := Jvm.LawKit.callS X0 hx (y := (⟨"java/util/Arrays", "copyOfRangeByte", "([BII)[B"⟩ : MethodName)) hown (mvT hZ (w_125 hw)) (mvT hZ (w_126 hw)) (mvT hZ (w_123 hw)) (mvT hZ (w_127 hw)) (by decide) (backOf (W := 0) (rm_crb l Z a0 hw [] t kk cs b m h0 n0 O0 V_t hp1 hp2 hp3) hZ (w_127 hw) (w_123 hw) (by decide) (by decide)) (g := (mkF mM 13 #[.val (.ref t), .val (.int (Int32.ofNat b)), .val (.int (Int32.ofNat (b + m)))] [(.int (Int32.ofNat (b + m))), (.int (Int32.ofNat b)), (.ref t)])) rfl (by rw [hml]; rfl) (argsL := [(.ref t), (.int (Int32.ofNat b)), (.int (Int32.ofNat (b + m)))]) (rest := []) (lenOf pd_7 rfl) rfl (by show 2 * 0 + _ ≤ _; exact Nat.le_of_eq rfl) (hb hby d_jdk_65_method_132_13) (fun _ _ => ⟨rfl, e0, (by decide : 0 + 1 ≤ _), (by decide : 0 + 8 ≤ _)⟩)
  dsimp only [Pt.U, Pt.locs, Pt.cells, Pt.slots] at X1 l1 y1 z1 st1 hQ1
  subst l1 y1 z1
  obtain ⟨a_1, ka_1, rfl, Nq1, Kq1, q1_0, q1_1⟩ := hQ1
  have N1 := Fr.app N0 Nq1
  have g_a_1 : n0 ≤ a_1 := Nat.le_trans (own_osz O0) q1_0
  have sz_a_1 : h0.size ≤ a_1 := Nat.le_trans K0.1 q1_0
  have K2 : Keep h0 T1.heap [] := K0.trans Kq1 all0
  obtain ⟨fs, hr, hrun, hended, hW, hsame⟩ := X1.leave (v := some (.ref a_1)) (fun h => by rw [Bd.returns] at h; cases h)
  refine ⟨_, _, pre0 _ ?_, hrun, hended, _, _, rfl, ?_, ⟨_, rfl⟩, hW, hsame.mono (by decide) (by decide)⟩
  · refine XS.iloadN X0.here hx rfl (hb hby d_jdk_65_method_132_0) rfl ?_
    show Steps pP.tables eE below (s₁.setTop (mkF mM 1 #[.val (.ref t), .val (.int (Int32.ofNat b)), .val (.int (Int32.ofNat (b + m)))] [(.int (Int32.ofNat b))])) _
    refine XS.ifYes X0.here hx rfl (pc0 := 1) (pc' := 10) rfl (hb hby d_jdk_65_method_132_1) rfl ((if0 _ _).trans (feq (fun q => absurd (own_inj (j := 0) q (by omega) (by omega)) (by omega))).2) (by decide) (by decide) ?_
    show Steps pP.tables eE below (s₁.setTop (mkF mM 10 #[.val (.ref t), .val (.int (Int32.ofNat b)), .val (.int (Int32.ofNat (b + m)))] [])) _
    refine XS.aloadN X0.here hx rfl (hb hby d_jdk_65_method_132_10) rfl rfl ?_
    show Steps pP.tables eE below (s₁.setTop (mkF mM 11 #[.val (.ref t), .val (.int (Int32.ofNat b)), .val (.int (Int32.ofNat (b + m)))] [(.ref t)])) _
    refine XS.iloadN X0.here hx rfl (hb hby d_jdk_65_method_132_11) rfl ?_
    show Steps pP.tables eE below (s₁.setTop (mkF mM 12 #[.val (.ref t), .val (.int (Int32.ofNat b)), .val (.int (Int32.ofNat (b + m)))] [(.int (Int32.ofNat b)), (.ref t)])) _
    refine XS.iloadN X0.here hx rfl (hb hby d_jdk_65_method_132_12) rfl ?_
    show Steps pP.tables eE below (s₁.setTop (mkF mM 13 #[.val (.ref t), .val (.int (Int32.ofNat b)), .val (.int (Int32.ofNat (b + m)))] [(.int (Int32.ofNat (b + m))), (.int (Int32.ofNat b)), (.ref t)])) _
    refine st1 _ ?_
    show Steps pP.tables eE below (T1.setTop (mkF mM 16 #[.val (.ref t), .val (.int (Int32.ofNat b)), .val (.int (Int32.ofNat (b + m)))] [(.ref a_1)])) _
    jvm_step X1.here [X1.here.top, hx, (hb hby d_jdk_65_method_132_16), X1.method', Bd.returns, Value.isRef, FieldType.isReference]
    first | (intro acts; rw [hr _ acts rfl rfl rfl]) | rw [hr _ _ rfl rfl rfl]
    exact Steps.refl _
  · show Q_cr Z t kk cs b m h0 n0 _ T1.heap _
    exact ⟨a_1, ka_1, rfl, N1, K2, sz_a_1, q1_1⟩
theorem ef_nst (m : MethodId) (x0 : Addr) (x1 : Int32) (x2 : Int32) : entryFrame m #[(.ref x0), (.int x1), (.int x2)] 3 = mkF m 0 #[.val (.ref x0), .val (.int x1), .val (.int x2)] [] := by first | (simp [entryFrame, mkF, argsToLocals, Value.category]; done) | rfl
def Q_nst (Z : State) (t : Addr) (kk : ClassId) (cs : List Int32) (b : Nat) (m : Nat) (h0 : Heap) (n0 : Nat) (vV : Option Value) (h : Heap) (LL : List Loc) : Prop := ∃ (r : Addr) (t2 : Addr) (k2 : ClassId), vV = some (.ref r) ∧ Fr n0 LL ∧ Keep h0 h [] ∧ own_Str Z h r t2 k2 ((cs.drop b).take m)
set_option maxRecDepth 65536 in
set_option maxHeartbeats 40000000 in
theorem rm_nst (l : Launch) (Z : State) (a0 : Array Value) (hw : ∀ d ∈ tables_1, d.before a0 Z = true) (ws : List Jvm.Cond) (t : Addr) (kk : ClassId) (cs : List Int32) (b : Nat) (m : Nat) (h0 : Heap) (n0 : Nat) (O0 : Old Z n0 h0) (V_t : Arv Z h0 t kk .byte (Int32.ofNat (cs).length) (own_b8 cs) (.int 0)) (hp1 : (cs.length ≤ 8)) (hp2 : (∀ c ∈ cs, ¬ c < 0 ∧ ¬ (255 : Int32) < c)) (hp3 : (b + m ≤ cs.length)) (hp4 : (0 < b)) :
    MetFree l (⟨"java/lang/StringLatin1", "newString", "([BII)Ljava/lang/String;"⟩ : MethodName) (head1 (Jvm.Cond.code (⟨"java/lang/StringLatin1", "newString", "([BII)Ljava/lang/String;"⟩ : MethodName) jdk_43_method_47_code 3 (some (.object "java/lang/String")) :: ws) ({ frames := 3, cells := 2, slots := 12, locals := 50 } : Room)) (fun aa_ U => aa_ = #[(.ref t), (.int (Int32.ofNat b)), (.int (Int32.ofNat m))] ∧ Z.Warmed39 U.vm ∧ U.heap = h0 ∧ CHv Z own_EL U.vm h0 ∧ ∀ xX_ ∈ ([] : List Addr), Safe Z own_EL U.vm h0 xX_) (fun _ _ _ _ _ => True) (fun _ U o U' => ∃ vV LL, o = .returned vV ∧ Q_nst Z t kk cs b m h0 n0 vV U'.heap LL ∧ CHr Z own_EL U.vm U.heap U'.vm U'.heap ∧ ReturnedEndW U o U' LL ({ frames := 3, cells := 2, slots := 12, locals := 50 } : Room).cells ({ frames := 3, cells := 2, slots := 12, locals := 50 } : Room).slots) := by
  refine MetFree.of_bodySF (plainFor_of_name pn_0) hisR ?_
  intro pP eE sS mM args below meth cC s₁ Bd hml0 hP hK
  obtain ⟨rfl, hZ, hh, hCH, hSf⟩ := hP
  have hx := Bd.exec
  have hby := Bd.bytes
  have hml : cC.maxLocals = 3 := hml0
  have hown : sS.vm.findClass "java/lang/StringLatin1" = some mM.cls := findClass_of_methodNamed Bd.named
  have hnm := (name_of_methodNamed Bd.named Bd.method).1
  have X0 : Stand pP l eE ({ frames := 3, cells := 2, slots := 12, locals := 50 } : Room) (sS.setVm sS.vm) mM #[(.ref t), (.int (Int32.ofNat b)), (.int (Int32.ofNat m))] below meth cC s₁ [] 0 0 := Stand.of_body Bd
  have e0 : s₁.heap = h0 := by rw [← hh, Bd.state]; rfl
  have N0 := Fr.nil n0
  have pre0 : ∀ tg, Steps pP.tables eE below (s₁.setTop (mkF mM 0 #[.val (.ref t), .val (.int (Int32.ofNat b)), .val (.int (Int32.ofNat m))] [])) tg → Steps pP.tables eE below (s₁.setTop (entryFrame mM #[(.ref t), (.int (Int32.ofNat b)), (.int (Int32.ofNat m))] 3)) tg := fun tg kg => castTop (ef_nst mM t (Int32.ofNat b) (Int32.ofNat m)) kg
  have K0 : Keep h0 h0 [] := Keep.refl _ _
  have hZ0 : Z.Warmed39 (sS.setVm sS.vm).vm := hZ
  have hown0 : (sS.setVm sS.vm).vm.findClass "java/lang/StringLatin1" = some mM.cls := hown
  have hS0 : sS.Since sS.vm 0 := (State.WarmedH.refl sS).since 0
  have hk0 : 0 ≤ h0.size := Nat.zero_le _
  have CH0 : CHr Z own_EL sS.vm h0 sS.vm h0 := CHr.refl hCH
  have hEL := own_EW hw
  have wS := own_wS hw
  have pre2 : ∀ tg, Steps pP.tables eE below (s₁.setTop (mkF mM 1 #[.val (.ref t), .val (.int (Int32.ofNat b)), .val (.int (Int32.ofNat m))] [(.int (Int32.ofNat m))])) tg → Steps pP.tables eE below (s₁.setTop (entryFrame mM #[(.ref t), (.int (Int32.ofNat b)), (.int (Int32.ofNat m))] 3)) tg := fun tg kg => pre0 tg (by
    refine XS.iloadN X0.here hx rfl (hb hby d_jdk_43_method_47_0) rfl ?_
    exact kg)
  by_cases hc1 : (Int32.ofNat m) = (0 : Int32)
  · obtain ⟨a3, T3, h3, k3, b3, kb3, X3, e3, E3, hS3, hk3, hZ3, hown3, La3, Lb3, Lc3, Ld3, -, -, CHl3, Lit3, Ls3, st3⟩ := ldcCH X0 hx hZ0 hown0 (w_153 hw) wS e0 hS0 hk0 hEL (List.mem_of_getElem? (i := 1) rfl) CH0.1 (vs := []) (z := 0) ⟨by decide, by decide⟩ (by decide) rfl (g := (mkF mM 4 #[.val (.ref t), .val (.int (Int32.ofNat b)), .val (.int (Int32.ofNat m))] [])) rfl (hb hby d_jdk_43_method_47_4) (n := 0) (by decide) (by decide) (by decide) (by decide)
    have CH4 : CHr Z own_EL sS.vm h0 T3.vm h3 := CH0.trans (CHl3)
    skip
    have K6 : Keep h0 h3 [] := K0.ext E3
    obtain ⟨fs, hr, hrun, hended, hR1, hR2, hR3, hR4⟩ := Stand.leaveW (s := sS) (vm₁ := T3.vm) X3 hS3 (by rw [e3]; exact hk3) (v := some (.ref a3)) (fun h => by rw [Bd.returns] at h; cases h)
    refine ⟨_, _, pre2 _ ?_, hrun, hended, _, _, rfl, ?_, ?_, hR1, hR2, hR3, hR4.mono (by decide) (by decide)⟩
    · refine XS.ifNo X0.here hx rfl (hb hby d_jdk_43_method_47_1) rfl ((if0 _ _).trans (teq hc1).2) ?_
      show Steps pP.tables eE below (s₁.setTop (mkF mM 4 #[.val (.ref t), .val (.int (Int32.ofNat b)), .val (.int (Int32.ofNat m))] [])) _
      refine st3 _ ?_
      show Steps pP.tables eE below (T3.setTop (mkF mM 6 #[.val (.ref t), .val (.int (Int32.ofNat b)), .val (.int (Int32.ofNat m))] [(.ref a3)])) _
      jvm_step X3.here [X3.here.top, hx, (hb hby d_jdk_43_method_47_6), X3.method', Bd.returns, Value.isRef, FieldType.isReference]
      first | (intro acts; rw [hr _ acts rfl rfl rfl]) | rw [hr _ _ rfl rfl rfl]
      exact Steps.refl _
    · show Q_nst Z t kk cs b m h0 n0 _ T3.heap _
      rw [e3]
      exact ⟨a3, b3, kb3, rfl, N0, K6, (own_sub0 cs b (own_inj (j := 0) hc1 (by omega) (by omega)) ▸ (⟨La3, Lc3, Lb3, Ld3, (⟨by decide, by decide⟩ : ([] : List Int32).length ≤ 4000 ∧ ∀ c ∈ ([] : List Int32), ¬ c < 0 ∧ ¬ (255 : Int32) < c)⟩ : own_Str Z h3 a3 b3 kb3 []))⟩
    · show CHr Z own_EL sS.vm sS.heap T3.vm T3.heap
      rw [hh, e3]
      exact CH4.trans (CHv.at X3 hZ3 hEL CH4.1)
  · obtain ⟨T8, h8, X8, e8, E8, A8, D8, -, st8⟩ := newO X0 hx hZ0 hown0 (w_120 hw) (w_6 hw) (w_7 hw) e0 (g := (mkF mM 7 #[.val (.ref t), .val (.int (Int32.ofNat b)), .val (.int (Int32.ofNat m))] [])) rfl (hb hby d_jdk_43_method_47_7) (by decide) (by decide)
    obtain ⟨b8, g8⟩ : ∃ z, z = h0.size := ⟨_, rfl⟩
    rw [← g8] at A8 D8 st8
    have Sn_b8 : Safe Z own_EL sS.vm h0 b8 := Safe.new (Nat.le_of_eq g8.symm)
    have g_b8 : n0 ≤ b8 := Nat.le_trans (own_osz O0) (Nat.le_of_eq g8.symm)
    have sz_b8 : h0.size ≤ b8 := Nat.le_trans K0.1 (Nat.le_of_eq g8.symm)
    have CH9 : CHr Z own_EL sS.vm h0 sS.vm h8 := CH0.trans (CHr.ext E8 CH0.1)
    have hk10 := Nat.le_trans hk0 E8.1
    have K11 : Keep h0 h8 [] := K0.ext E8
    have F_b8_value : Fld Z h8 b8 "java/lang/String" "value" "[B" .null := D8 (Or.inr (w_20 hw)) (ty := (.array .byte)) (by decide)
    have F_b8_coder : Fld Z h8 b8 "java/lang/String" "coder" "B" (.int (0 : Int32)) := D8 (Or.inr (w_21 hw)) (ty := .byte) (by decide)
    have f12 := (V_t.ext E8)
    have f13 := (O0.ext E8)
    obtain ⟨_, _, ⟨T14, L14, k14, n14⟩, -, X14, ⟨Lc14, hQ14, l14, y14, z14⟩, st14⟩ := Jvm.LawKit.callS X8 hx (y := (⟨"java/util/Arrays", "copyOfRange", "([BII)[B"⟩ : MethodName)) hown0 (mvT hZ0 (w_121 hw)) (mvT hZ0 (w_122 hw)) (mvT hZ0 (w_123 hw)) (mvT hZ0 (w_124 hw)) (by decide) (backOf (W := 2) (rm_cr l Z a0 hw [] t kk cs b m h8 n0 f13 f12 hp1 hp2 hp3 hp4) hZ0 (w_124 hw) (w_123 hw) (by decide) (by decide)) (g := (mkF mM 16 #[.val (.ref t), .val (.int (Int32.ofNat b)), .val (.int (Int32.ofNat m))] [(.int (Int32.ofNat (b + m))), (.int (Int32.ofNat b)), (.ref t), (.ref b8), (.ref b8)])) rfl (by rw [hml]; rfl) (argsL := [(.ref t), (.int (Int32.ofNat b)), (.int (Int32.ofNat (b + m)))]) (rest := [(.ref b8), (.ref b8)]) (lenOf pd_7 rfl) rfl (by show 2 * 0 + _ ≤ _; exact Nat.le_of_eq rfl) (hb hby d_jdk_43_method_47_16) (fun _ _ => ⟨rfl, e8, (by decide : 1 + 1 ≤ _), (by decide : 4 + 8 ≤ _)⟩)
    dsimp only [Pt.U, Pt.locs, Pt.cells, Pt.slots] at X14 l14 y14 z14 st14 hQ14
    subst l14 y14 z14
    obtain ⟨a_14, ka_14, rfl, Nq14, Kq14, q14_0, q14_1⟩ := hQ14
    have N14 := Fr.app N0 Nq14
    have g_a_14 : n0 ≤ a_14 := Nat.le_trans (own_osz f13) q14_0
    have sz_a_14 : h0.size ≤ a_14 := Nat.le_trans K11.1 q14_0
    have CH15 : CHr Z own_EL sS.vm h0 sS.vm T14.heap := CH9.trans (CHr.keep Kq14 sf0 CH9.1)
    have hk16 := Nat.le_trans hk10 Kq14.1
    have K17 : Keep h0 T14.heap [] := K11.trans Kq14 all0
    have f18 := (A8.keep Kq14)
    have f19 := (F_b8_value.keep Kq14 nin0)
    have f20 := (F_b8_coder.keep Kq14 nin0)
    have f21 := (f13.keep Kq14 all0)
    obtain ⟨_, _, ⟨T22, L22, k22, n22⟩, -, X22, ⟨Lc22, hQ22, l22, y22, z22⟩, st22⟩ := X14.specialBack hx (y := (⟨"java/lang/String", "<init>", "([BB)V"⟩ : MethodName)) rfl hown0 (mvT hZ0 (w_136 hw)) (mvT hZ0 (w_137 hw)) (mvT hZ0 (w_138 hw)) (by decide) (backOf (W := 1) (rm_sbb l Z a0 hw [] b8 a_14 .null (.int (0 : Int32)) T14.heap n0 f21 f18 f19 f20 g_b8) hZ0 (w_138 hw) (w_7 hw) (by decide) (by decide)) (g := (mkF mM 20 #[.val (.ref t), .val (.int (Int32.ofNat b)), .val (.int (Int32.ofNat m))] [(.int (0 : Int32)), (.ref a_14), (.ref b8), (.ref b8)])) rfl (by rw [hml]; rfl) (Steps.refl _) (a := b8) (argsL := [(.ref a_14), (.int (0 : Int32))]) (rest := [(.ref b8)]) (lenOf pd_8 rfl) rfl (by show 2 * 0 + _ ≤ _; exact Nat.le_of_eq rfl) (hb hby d_jdk_43_method_47_20) (fun _ _ => ⟨rfl, rfl, (by decide : 2 + 0 ≤ _), (by decide : 12 + 0 ≤ _)⟩)
    dsimp only [Pt.U, Pt.locs, Pt.cells, Pt.slots] at X22 l22 y22 z22 st22 hQ22
    subst l22 y22 z22
    obtain ⟨rfl, Nq22, Kq22, q22_0, q22_1, q22_2⟩ := hQ22
    have N22 := Fr.app N14 Nq22
    have f24 := (Safe.keep Kq14 sf0 CH9.1 (Safe.ext E8 CH0.1 Sn_b8))
    have sfp25 := (sfS f24 sf0)
    have CH23 : CHr Z own_EL sS.vm h0 sS.vm T22.heap := CH15.trans (CHr.keep Kq22 sfp25 CH15.1)
    have hk26 := Nat.le_trans hk16 Kq22.1
    have K27 : Keep h0 T22.heap [] := K17.trans Kq22 (allS (Or.inr sz_b8) all0)
    have f29 := (q14_1.keep Kq22 (ninS (Ne.symm (Nat.ne_of_lt (Nat.lt_of_lt_of_le (A8).lt q14_0))) nin0))
    obtain ⟨fs, hr, hrun, hended, hR1, hR2, hR3, hR4⟩ := Stand.leaveW (s := sS) (vm₁ := sS.vm) X22 hS0 (hk26) (v := some (.ref b8)) (fun h => by rw [Bd.returns] at h; cases h)
    refine ⟨_, _, pre2 _ ?_, hrun, hended, _, _, rfl, ?_, ?_, hR1, hR2, hR3, hR4.mono (by decide) (by decide)⟩
    · refine XS.ifYes X0.here hx rfl (pc0 := 1) (pc' := 7) rfl (hb hby d_jdk_43_method_47_1) rfl ((if0 _ _).trans (feq hc1).2) (by decide) (by decide) ?_
      show Steps pP.tables eE below (s₁.setTop (mkF mM 7 #[.val (.ref t), .val (.int (Int32.ofNat b)), .val (.int (Int32.ofNat m))] [])) _
      refine st8 _ ?_
      show Steps pP.tables eE below (T8.setTop (mkF mM 10 #[.val (.ref t), .val (.int (Int32.ofNat b)), .val (.int (Int32.ofNat m))] [(.ref b8)])) _
      refine XS.dup X8.here hx rfl (hb hby d_jdk_43_method_47_10) rfl rfl ?_
      show Steps pP.tables eE below (T8.setTop (mkF mM 11 #[.val (.ref t), .val (.int (Int32.ofNat b)), .val (.int (Int32.ofNat m))] [(.ref b8), (.ref b8)])) _
      refine XS.aloadN X8.here hx rfl (hb hby d_jdk_43_method_47_11) rfl rfl ?_
      show Steps pP.tables eE below (T8.setTop (mkF mM 12 #[.val (.ref t), .val (.int (Int32.ofNat b)), .val (.int (Int32.ofNat m))] [(.ref t), (.ref b8), (.ref b8)])) _
      refine XS.iloadN X8.here hx rfl (hb hby d_jdk_43_method_47_12) rfl ?_
      show Steps pP.tables eE below (T8.setTop (mkF mM 13 #[.val (.ref t), .val (.int (Int32.ofNat b)), .val (.int (Int32.ofNat m))] [(.int (Int32.ofNat b)), (.ref t), (.ref b8), (.ref b8)])) _
      refine XS.iloadN X8.here hx rfl (hb hby d_jdk_43_method_47_13) rfl ?_
      show Steps pP.tables eE below (T8.setTop (mkF mM 14 #[.val (.ref t), .val (.int (Int32.ofNat b)), .val (.int (Int32.ofNat m))] [(.int (Int32.ofNat b)), (.int (Int32.ofNat b)), (.ref t), (.ref b8), (.ref b8)])) _
      refine XS.iloadN X8.here hx rfl (hb hby d_jdk_43_method_47_14) rfl ?_
      show Steps pP.tables eE below (T8.setTop (mkF mM 15 #[.val (.ref t), .val (.int (Int32.ofNat b)), .val (.int (Int32.ofNat m))] [(.int (Int32.ofNat m)), (.int (Int32.ofNat b)), (.int (Int32.ofNat b)), (.ref t), (.ref b8), (.ref b8)])) _
      refine XS.iadd X8.here hx rfl (hb hby d_jdk_43_method_47_15) rfl ?_
      show Steps pP.tables eE below (T8.setTop (mkF mM 16 #[.val (.ref t), .val (.int (Int32.ofNat b)), .val (.int (Int32.ofNat m))] [(.int ((Int32.ofNat b) + (Int32.ofNat m))), (.int (Int32.ofNat b)), (.ref t), (.ref b8), (.ref b8)])) _
      rw [own_addn]
      show Steps pP.tables eE below (T8.setTop (mkF mM 16 #[.val (.ref t), .val (.int (Int32.ofNat b)), .val (.int (Int32.ofNat m))] [(.int (Int32.ofNat (b + m))), (.int (Int32.ofNat b)), (.ref t), (.ref b8), (.ref b8)])) _
      refine st14 _ ?_
      show Steps pP.tables eE below (T14.setTop (mkF mM 19 #[.val (.ref t), .val (.int (Int32.ofNat b)), .val (.int (Int32.ofNat m))] [(.ref a_14), (.ref b8), (.ref b8)])) _
      refine XS.iconst X14.here hx rfl (hb hby d_jdk_43_method_47_19) ?_
      show Steps pP.tables eE below (T14.setTop (mkF mM 20 #[.val (.ref t), .val (.int (Int32.ofNat b)), .val (.int (Int32.ofNat m))] [(.int (0 : Int32)), (.ref a_14), (.ref b8), (.ref b8)])) _
      refine st22.trans ?_
      show Steps pP.tables eE below (T22.setTop (mkF mM 23 #[.val (.ref t), .val (.int (Int32.ofNat b)), .val (.int (Int32.ofNat m))] [(.ref b8)])) _
      jvm_step X22.here [X22.here.top, hx, (hb hby d_jdk_43_method_47_23), X22.method', Bd.returns, Value.isRef, FieldType.isReference]
      first | (intro acts; rw [hr _ acts rfl rfl rfl]) | rw [hr _ _ rfl rfl rfl]
      exact Steps.refl _
    · show Q_nst Z t kk cs b m h0 n0 _ T22.heap _
      exact ⟨b8, a_14, ka_14, rfl, N22, K27, (⟨q22_0, q22_1, q22_2, (congrArg Int32.ofNat (own_sublen cs hp3 : ((cs.drop b).take m).length = m)).symm ▸ f29, own_subb cs b m hp1 hp2⟩ : own_Str Z T22.heap b8 a_14 ka_14 ((cs.drop b).take m))⟩
    · show CHr Z own_EL sS.vm sS.heap T22.vm T22.heap
      rw [hh]
      exact CH23.trans (CHv.at X22 hZ0 hEL CH23.1)
theorem ef_cfn (m : MethodId) (x0 : Int32) (x1 : Int32) (x2 : Int32) : entryFrame m #[(.int x0), (.int x1), (.int x2), .null] 4 = mkF m 0 #[.val (.int x0), .val (.int x1), .val (.int x2), .val .null] [] := by first | (simp [entryFrame, mkF, argsToLocals, Value.category]; done) | rfl
def Q_cfn (Z : State) (b : Nat) (e : Nat) (n : Nat) (h0 : Heap) (n0 : Nat) (vV : Option Value) (h : Heap) (LL : List Loc) : Prop := vV = some (.int (Int32.ofNat b)) ∧ LL = [] ∧ h = h0
set_option maxRecDepth 65536 in
set_option maxHeartbeats 40000000 in
theorem rm_cfn (l : Launch) (Z : State) (a0 : Array Value) (hw : ∀ d ∈ tables_1, d.before a0 Z = true) (ws : List Jvm.Cond) (b : Nat) (e : Nat) (n : Nat) (h0 : Heap) (n0 : Nat) (O0 : Old Z n0 h0) (hp0 : (b ≤ e ∧ e ≤ n ∧ n ≤ 4000)) :
    MetFree l (⟨"jdk/internal/util/Preconditions", "checkFromToIndex", "(IIILjava/util/function/BiFunction;)I"⟩ : MethodName) (head1 (Jvm.Cond.code (⟨"jdk/internal/util/Preconditions", "checkFromToIndex", "(IIILjava/util/function/BiFunction;)I"⟩ : MethodName) jdk_41_method_12_code 4 (some .int) :: ws) ({ frames := 0, cells := 0, slots := 0, locals := 0 } : Room)) (fun aa_ U => aa_ = #[(.int (Int32.ofNat b)), (.int (Int32.ofNat e)), (.int (Int32.ofNat n)), .null] ∧ Z.Warmed39 U.vm ∧ U.heap = h0) (fun _ _ _ _ _ => True) (fun _ U o U' => ∃ vV LL, o = .returned vV ∧ Q_cfn Z b e n h0 n0 vV U'.heap LL ∧ FrameEnd U o U' LL ({ frames := 0, cells := 0, slots := 0, locals := 0 } : Room).cells ({ frames := 0, cells := 0, slots := 0, locals := 0 } : Room).slots) := by
  refine MetFree.of_bodySF (plainFor_of_name pn_3) hisR ?_
  intro pP eE sS mM args below meth cC s₁ Bd hml0 hP hK
  obtain ⟨rfl, hZ, hh⟩ := hP
  have hx := Bd.exec
  have hby := Bd.bytes
  have hml : cC.maxLocals = 4 := hml0
  have hown : sS.vm.findClass "jdk/internal/util/Preconditions" = some mM.cls := findClass_of_methodNamed Bd.named
  have hnm := (name_of_methodNamed Bd.named Bd.method).1
  have X0 : Stand pP l eE ({ frames := 0, cells := 0, slots := 0, locals := 0 } : Room) sS mM #[(.int (Int32.ofNat b)), (.int (Int32.ofNat e)), (.int (Int32.ofNat n)), .null] below meth cC s₁ [] 0 0 := Stand.of_body Bd
  have e0 : s₁.heap = h0 := by rw [← hh, Bd.state]; rfl
  have N0 := Fr.nil n0
  have pre0 : ∀ tg, Steps pP.tables eE below (s₁.setTop (mkF mM 0 #[.val (.int (Int32.ofNat b)), .val (.int (Int32.ofNat e)), .val (.int (Int32.ofNat n)), .val .null] [])) tg → Steps pP.tables eE below (s₁.setTop (entryFrame mM #[(.int (Int32.ofNat b)), (.int (Int32.ofNat e)), (.int (Int32.ofNat n)), .null] 4)) tg := fun tg kg => castTop (ef_cfn mM (Int32.ofNat b) (Int32.ofNat e) (Int32.ofNat n)) kg
  obtain ⟨fs, hr, hrun, hended, hW, hsame⟩ := X0.leave (v := some (.int (Int32.ofNat b))) (fun h => by rw [Bd.returns] at h; cases h)
  refine ⟨_, _, pre0 _ ?_, hrun, hended, _, _, rfl, ?_, ⟨_, rfl⟩, hW, hsame.mono (by decide) (by decide)⟩
  · refine XS.iloadN X0.here hx rfl (hb hby d_jdk_41_method_12_0) rfl ?_
    show Steps pP.tables eE below (s₁.setTop (mkF mM 1 #[.val (.int (Int32.ofNat b)), .val (.int (Int32.ofNat e)), .val (.int (Int32.ofNat n)), .val .null] [(.int (Int32.ofNat b))])) _
    refine XS.ifNo X0.here hx rfl (hb hby d_jdk_41_method_12_1) rfl ((if0 _ _).trans (flt (own_nneg _ (by omega))).1) ?_
    show Steps pP.tables eE below (s₁.setTop (mkF mM 4 #[.val (.int (Int32.ofNat b)), .val (.int (Int32.ofNat e)), .val (.int (Int32.ofNat n)), .val .null] [])) _
    refine XS.iloadN X0.here hx rfl (hb hby d_jdk_41_method_12_4) rfl ?_
    show Steps pP.tables eE below (s₁.setTop (mkF mM 5 #[.val (.int (Int32.ofNat b)), .val (.int (Int32.ofNat e)), .val (.int (Int32.ofNat n)), .val .null] [(.int (Int32.ofNat b))])) _
    refine XS.iloadN X0.here hx rfl (hb hby d_jdk_41_method_12_5) rfl ?_
    show Steps pP.tables eE below (s₁.setTop (mkF mM 6 #[.val (.int (Int32.ofNat b)), .val (.int (Int32.ofNat e)), .val (.int (Int32.ofNat n)), .val .null] [(.int (Int32.ofNat e)), (.int (Int32.ofNat b))])) _
    refine XS.icmpNo X0.here hx rfl (hb hby d_jdk_41_method_12_6) rfl (flt (own_nlt (by omega) (by omega))).2.2.1 ?_
    show Steps pP.tables eE below (s₁.setTop (mkF mM 9 #[.val (.int (Int32.ofNat b)), .val (.int (Int32.ofNat e)), .val (.int (Int32.ofNat n)), .val .null] [])) _
    refine XS.iloadN X0.here hx rfl (hb hby d_jdk_41_method_12_9) rfl ?_
    show Steps pP.tables eE below (s₁.setTop (mkF mM 10 #[.val (.int (Int32.ofNat b)), .val (.int (Int32.ofNat e)), .val (.int (Int32.ofNat n)), .val .null] [(.int (Int32.ofNat e))])) _
    refine XS.iloadN X0.here hx rfl (hb hby d_jdk_41_method_12_10) rfl ?_
    show Steps pP.tables eE below (s₁.setTop (mkF mM 11 #[.val (.int (Int32.ofNat b)), .val (.int (Int32.ofNat e)), .val (.int (Int32.ofNat n)), .val .null] [(.int (Int32.ofNat n)), (.int (Int32.ofNat e))])) _
    refine XS.icmpYes X0.here hx rfl (pc0 := 11) (pc' := 22) rfl (hb hby d_jdk_41_method_12_11) rfl (flt (own_nlt (by omega) (by omega))).2.2.2 (by decide) (by decide) ?_
    show Steps pP.tables eE below (s₁.setTop (mkF mM 22 #[.val (.int (Int32.ofNat b)), .val (.int (Int32.ofNat e)), .val (.int (Int32.ofNat n)), .val .null] [])) _
    refine XS.iloadN X0.here hx rfl (hb hby d_jdk_41_method_12_22) rfl ?_
    show Steps pP.tables eE below (s₁.setTop (mkF mM 23 #[.val (.int (Int32.ofNat b)), .val (.int (Int32.ofNat e)), .val (.int (Int32.ofNat n)), .val .null] [(.int (Int32.ofNat b))])) _
    exact retI X0 hx Bd.returns (hb hby d_jdk_41_method_12_23) hr
  · show Q_cfn Z b e n h0 n0 _ s₁.heap _
    rw [e0]
    exact ⟨rfl, rfl, rfl⟩
theorem ef_cfr (m : MethodId) (x0 : Int32) (x1 : Int32) (x2 : Int32) (x3 : Addr) : entryFrame m #[(.int x0), (.int x1), (.int x2), (.ref x3)] 4 = mkF m 0 #[.val (.int x0), .val (.int x1), .val (.int x2), .val (.ref x3)] [] := by first | (simp [entryFrame, mkF, argsToLocals, Value.category]; done) | rfl
def Q_cfr (Z : State) (b : Nat) (e : Nat) (n : Nat) (fa : Addr) (h0 : Heap) (n0 : Nat) (vV : Option Value) (h : Heap) (LL : List Loc) : Prop := vV = some (.int (Int32.ofNat b)) ∧ LL = [] ∧ h = h0
set_option maxRecDepth 65536 in
set_option maxHeartbeats 40000000 in
theorem rm_cfr (l : Launch) (Z : State) (a0 : Array Value) (hw : ∀ d ∈ tables_1, d.before a0 Z = true) (ws : List Jvm.Cond) (b : Nat) (e : Nat) (n : Nat) (fa : Addr) (h0 : Heap) (n0 : Nat) (O0 : Old Z n0 h0) (hp0 : (b ≤ e ∧ e ≤ n ∧ n ≤ 4000)) :
    MetFree l (⟨"jdk/internal/util/Preconditions", "checkFromToIndex", "(IIILjava/util/function/BiFunction;)I"⟩ : MethodName) (head1 (Jvm.Cond.code (⟨"jdk/internal/util/Preconditions", "checkFromToIndex", "(IIILjava/util/function/BiFunction;)I"⟩ : MethodName) jdk_41_method_12_code 4 (some .int) :: ws) ({ frames := 0, cells := 0, slots := 0, locals := 0 } : Room)) (fun aa_ U => aa_ = #[(.int (Int32.ofNat b)), (.int (Int32.ofNat e)), (.int (Int32.ofNat n)), (.ref fa)] ∧ Z.Warmed39 U.vm ∧ U.heap = h0) (fun _ _ _ _ _ => True) (fun _ U o U' => ∃ vV LL, o = .returned vV ∧ Q_cfr Z b e n fa h0 n0 vV U'.heap LL ∧ FrameEnd U o U' LL ({ frames := 0, cells := 0, slots := 0, locals := 0 } : Room).cells ({ frames := 0, cells := 0, slots := 0, locals := 0 } : Room).slots) := by
  refine MetFree.of_bodySF (plainFor_of_name pn_3) hisR ?_
  intro pP eE sS mM args below meth cC s₁ Bd hml0 hP hK
  obtain ⟨rfl, hZ, hh⟩ := hP
  have hx := Bd.exec
  have hby := Bd.bytes
  have hml : cC.maxLocals = 4 := hml0
  have hown : sS.vm.findClass "jdk/internal/util/Preconditions" = some mM.cls := findClass_of_methodNamed Bd.named
  have hnm := (name_of_methodNamed Bd.named Bd.method).1
  have X0 : Stand pP l eE ({ frames := 0, cells := 0, slots := 0, locals := 0 } : Room) sS mM #[(.int (Int32.ofNat b)), (.int (Int32.ofNat e)), (.int (Int32.ofNat n)), (.ref fa)] below meth cC s₁ [] 0 0 := Stand.of_body Bd
  have e0 : s₁.heap = h0 := by rw [← hh, Bd.state]; rfl
  have N0 := Fr.nil n0
  have pre0 : ∀ tg, Steps pP.tables eE below (s₁.setTop (mkF mM 0 #[.val (.int (Int32.ofNat b)), .val (.int (Int32.ofNat e)), .val (.int (Int32.ofNat n)), .val (.ref fa)] [])) tg → Steps pP.tables eE below (s₁.setTop (entryFrame mM #[(.int (Int32.ofNat b)), (.int (Int32.ofNat e)), (.int (Int32.ofNat n)), (.ref fa)] 4)) tg := fun tg kg => castTop (ef_cfr mM (Int32.ofNat b) (Int32.ofNat e) (Int32.ofNat n) fa) kg
  obtain ⟨fs, hr, hrun, hended, hW, hsame⟩ := X0.leave (v := some (.int (Int32.ofNat b))) (fun h => by rw [Bd.returns] at h; cases h)
  refine ⟨_, _, pre0 _ ?_, hrun, hended, _, _, rfl, ?_, ⟨_, rfl⟩, hW, hsame.mono (by decide) (by decide)⟩
  · refine XS.iloadN X0.here hx rfl (hb hby d_jdk_41_method_12_0) rfl ?_
    show Steps pP.tables eE below (s₁.setTop (mkF mM 1 #[.val (.int (Int32.ofNat b)), .val (.int (Int32.ofNat e)), .val (.int (Int32.ofNat n)), .val (.ref fa)] [(.int (Int32.ofNat b))])) _
    refine XS.ifNo X0.here hx rfl (hb hby d_jdk_41_method_12_1) rfl ((if0 _ _).trans (flt (own_nneg _ (by omega))).1) ?_
    show Steps pP.tables eE below (s₁.setTop (mkF mM 4 #[.val (.int (Int32.ofNat b)), .val (.int (Int32.ofNat e)), .val (.int (Int32.ofNat n)), .val (.ref fa)] [])) _
    refine XS.iloadN X0.here hx rfl (hb hby d_jdk_41_method_12_4) rfl ?_
    show Steps pP.tables eE below (s₁.setTop (mkF mM 5 #[.val (.int (Int32.ofNat b)), .val (.int (Int32.ofNat e)), .val (.int (Int32.ofNat n)), .val (.ref fa)] [(.int (Int32.ofNat b))])) _
    refine XS.iloadN X0.here hx rfl (hb hby d_jdk_41_method_12_5) rfl ?_
    show Steps pP.tables eE below (s₁.setTop (mkF mM 6 #[.val (.int (Int32.ofNat b)), .val (.int (Int32.ofNat e)), .val (.int (Int32.ofNat n)), .val (.ref fa)] [(.int (Int32.ofNat e)), (.int (Int32.ofNat b))])) _
    refine XS.icmpNo X0.here hx rfl (hb hby d_jdk_41_method_12_6) rfl (flt (own_nlt (by omega) (by omega))).2.2.1 ?_
    show Steps pP.tables eE below (s₁.setTop (mkF mM 9 #[.val (.int (Int32.ofNat b)), .val (.int (Int32.ofNat e)), .val (.int (Int32.ofNat n)), .val (.ref fa)] [])) _
    refine XS.iloadN X0.here hx rfl (hb hby d_jdk_41_method_12_9) rfl ?_
    show Steps pP.tables eE below (s₁.setTop (mkF mM 10 #[.val (.int (Int32.ofNat b)), .val (.int (Int32.ofNat e)), .val (.int (Int32.ofNat n)), .val (.ref fa)] [(.int (Int32.ofNat e))])) _
    refine XS.iloadN X0.here hx rfl (hb hby d_jdk_41_method_12_10) rfl ?_
    show Steps pP.tables eE below (s₁.setTop (mkF mM 11 #[.val (.int (Int32.ofNat b)), .val (.int (Int32.ofNat e)), .val (.int (Int32.ofNat n)), .val (.ref fa)] [(.int (Int32.ofNat n)), (.int (Int32.ofNat e))])) _
    refine XS.icmpYes X0.here hx rfl (pc0 := 11) (pc' := 22) rfl (hb hby d_jdk_41_method_12_11) rfl (flt (own_nlt (by omega) (by omega))).2.2.2 (by decide) (by decide) ?_
    show Steps pP.tables eE below (s₁.setTop (mkF mM 22 #[.val (.int (Int32.ofNat b)), .val (.int (Int32.ofNat e)), .val (.int (Int32.ofNat n)), .val (.ref fa)] [])) _
    refine XS.iloadN X0.here hx rfl (hb hby d_jdk_41_method_12_22) rfl ?_
    show Steps pP.tables eE below (s₁.setTop (mkF mM 23 #[.val (.int (Int32.ofNat b)), .val (.int (Int32.ofNat e)), .val (.int (Int32.ofNat n)), .val (.ref fa)] [(.int (Int32.ofNat b))])) _
    exact retI X0 hx Bd.returns (hb hby d_jdk_41_method_12_23) hr
  · show Q_cfr Z b e n fa h0 n0 _ s₁.heap _
    rw [e0]
    exact ⟨rfl, rfl, rfl⟩
theorem ef_cbe (m : MethodId) (x0 : Int32) (x1 : Int32) (x2 : Int32) : entryFrame m #[(.int x0), (.int x1), (.int x2)] 3 = mkF m 0 #[.val (.int x0), .val (.int x1), .val (.int x2)] [] := by first | (simp [entryFrame, mkF, argsToLocals, Value.category]; done) | rfl
def Q_cbe (Z : State) (b : Nat) (e : Nat) (n : Nat) (fm : Value) (h0 : Heap) (n0 : Nat) (vV : Option Value) (h : Heap) (LL : List Loc) : Prop := vV = none ∧ LL = [] ∧ h = h0
set_option maxRecDepth 65536 in
set_option maxHeartbeats 40000000 in
theorem rm_cbe (l : Launch) (Z : State) (a0 : Array Value) (hw : ∀ d ∈ tables_1, d.before a0 Z = true) (ws : List Jvm.Cond) (b : Nat) (e : Nat) (n : Nat) (fm : Value) (h0 : Heap) (n0 : Nat) (O0 : Old Z n0 h0) (hp0 : (b ≤ e ∧ e ≤ n ∧ n ≤ 4000)) (S_SIOOBE_FORMATTER : Sta Z Z.heap "jdk/internal/util/Preconditions" "SIOOBE_FORMATTER" "Ljava/util/function/BiFunction;" fm) (hp2 : (fm.isRef = true)) :
    MetFree l (⟨"java/lang/String", "checkBoundsBeginEnd", "(III)V"⟩ : MethodName) (head1 (Jvm.Cond.code (⟨"java/lang/String", "checkBoundsBeginEnd", "(III)V"⟩ : MethodName) jdk_42_method_158_code 3 none :: ws) ({ frames := 1, cells := 0, slots := 0, locals := 15 } : Room)) (fun aa_ U => aa_ = #[(.int (Int32.ofNat b)), (.int (Int32.ofNat e)), (.int (Int32.ofNat n))] ∧ Z.Warmed39 U.vm ∧ U.heap = h0) (fun _ _ _ _ _ => True) (fun _ U o U' => ∃ vV LL, o = .returned vV ∧ Q_cbe Z b e n fm h0 n0 vV U'.heap LL ∧ FrameEnd U o U' LL ({ frames := 1, cells := 0, slots := 0, locals := 15 } : Room).cells ({ frames := 1, cells := 0, slots := 0, locals := 15 } : Room).slots) := by
  refine MetFree.of_bodySF (plainFor_of_name pn_1) hisR ?_
  intro pP eE sS mM args below meth cC s₁ Bd hml0 hP hK
  obtain ⟨rfl, hZ, hh⟩ := hP
  have hx := Bd.exec
  have hby := Bd.bytes
  have hml : cC.maxLocals = 3 := hml0
  have hown : sS.vm.findClass "java/lang/String" = some mM.cls := findClass_of_methodNamed Bd.named
  have hnm := (name_of_methodNamed Bd.named Bd.method).1
  have X0 : Stand pP l eE ({ frames := 1, cells := 0, slots := 0, locals := 15 } : Room) sS mM #[(.int (Int32.ofNat b)), (.int (Int32.ofNat e)), (.int (Int32.ofNat n))] below meth cC s₁ [] 0 0 := Stand.of_body Bd
  have e0 : s₁.heap = h0 := by rw [← hh, Bd.state]; rfl
  have N0 := Fr.nil n0
  have pre0 : ∀ tg, Steps pP.tables eE below (s₁.setTop (mkF mM 0 #[.val (.int (Int32.ofNat b)), .val (.int (Int32.ofNat e)), .val (.int (Int32.ofNat n))] [])) tg → Steps pP.tables eE below (s₁.setTop (entryFrame mM #[(.int (Int32.ofNat b)), (.int (Int32.ofNat e)), (.int (Int32.ofNat n))] 3)) tg := fun tg kg => castTop (ef_cbe mM (Int32.ofNat b) (Int32.ofNat e) (Int32.ofNat n)) kg
  have pre1 : ∀ tg, Steps pP.tables eE below (s₁.setTop (mkF mM 3 #[.val (.int (Int32.ofNat b)), .val (.int (Int32.ofNat e)), .val (.int (Int32.ofNat n))] [(.int (Int32.ofNat n)), (.int (Int32.ofNat e)), (.int (Int32.ofNat b))])) tg → Steps pP.tables eE below (s₁.setTop (entryFrame mM #[(.int (Int32.ofNat b)), (.int (Int32.ofNat e)), (.int (Int32.ofNat n))] 3)) tg := fun tg kg => pre0 tg (by
    refine XS.iloadN X0.here hx rfl (hb hby d_jdk_42_method_158_0) rfl ?_
    show Steps pP.tables eE below (s₁.setTop (mkF mM 1 #[.val (.int (Int32.ofNat b)), .val (.int (Int32.ofNat e)), .val (.int (Int32.ofNat n))] [(.int (Int32.ofNat b))])) _
    refine XS.iloadN X0.here hx rfl (hb hby d_jdk_42_method_158_1) rfl ?_
    show Steps pP.tables eE below (s₁.setTop (mkF mM 2 #[.val (.int (Int32.ofNat b)), .val (.int (Int32.ofNat e)), .val (.int (Int32.ofNat n))] [(.int (Int32.ofNat e)), (.int (Int32.ofNat b))])) _
    refine XS.iloadN X0.here hx rfl (hb hby d_jdk_42_method_158_2) rfl ?_
    exact kg)
  rcases ref_cases hp2 with hfm | ⟨fa, hfm⟩
  · have Sfm : Sta Z Z.heap "jdk/internal/util/Preconditions" "SIOOBE_FORMATTER" "Ljava/util/function/BiFunction;" .null := hfm ▸ S_SIOOBE_FORMATTER
    obtain ⟨T2, X2, e2, st2⟩ := getS2 X0 hx hZ hown (host := "") (Or.inl (w_98 hw)) Via.refl e0 (Sta.ext (O0).2 Sfm) (g := (mkF mM 3 #[.val (.int (Int32.ofNat b)), .val (.int (Int32.ofNat e)), .val (.int (Int32.ofNat n))] [(.int (Int32.ofNat n)), (.int (Int32.ofNat e)), (.int (Int32.ofNat b))])) rfl (hb hby d_jdk_42_method_158_3)
    obtain ⟨_, _, ⟨T3, L3, k3, n3⟩, -, X3, ⟨Lc3, hQ3, l3, y3, z3⟩, st3⟩ := Jvm.LawKit.callS X2 hx (y := (⟨"jdk/internal/util/Preconditions", "checkFromToIndex", "(IIILjava/util/function/BiFunction;)I"⟩ : MethodName)) hown (mvT hZ (w_100 hw)) (mvT hZ (w_101 hw)) (mvT hZ (w_99 hw)) (mvT hZ (w_102 hw)) (by decide) (backOf (W := 0) (rm_cfn l Z a0 hw [] b e n h0 n0 O0 hp0) hZ (w_102 hw) (w_99 hw) (by decide) (by decide)) (g := (mkF mM 6 #[.val (.int (Int32.ofNat b)), .val (.int (Int32.ofNat e)), .val (.int (Int32.ofNat n))] [.null, (.int (Int32.ofNat n)), (.int (Int32.ofNat e)), (.int (Int32.ofNat b))])) rfl (by rw [hml]; rfl) (argsL := [(.int (Int32.ofNat b)), (.int (Int32.ofNat e)), (.int (Int32.ofNat n)), .null]) (rest := []) (lenOf pd_9 rfl) rfl (by show 2 * 0 + _ ≤ _; exact Nat.le_of_eq rfl) (hb hby d_jdk_42_method_158_6) (fun _ _ => ⟨rfl, e2, (by decide : 0 + 0 ≤ _), (by decide : 0 + 0 ≤ _)⟩)
    dsimp only [Pt.U, Pt.locs, Pt.cells, Pt.slots] at X3 l3 y3 z3 st3 hQ3
    subst l3 y3 z3
    obtain ⟨rfl, rfl, Kq3⟩ := hQ3
    try rw [List.append_nil] at X3
    obtain ⟨fs, hr, hrun, hended, hW, hsame⟩ := X3.leave (v := none) (fun _ => rfl)
    refine ⟨_, _, pre1 _ ?_, hrun, hended, _, _, rfl, ?_, ⟨_, rfl⟩, hW, hsame.mono (by decide) (by decide)⟩
    · refine st2 _ ?_
      show Steps pP.tables eE below (T2.setTop (mkF mM 6 #[.val (.int (Int32.ofNat b)), .val (.int (Int32.ofNat e)), .val (.int (Int32.ofNat n))] [.null, (.int (Int32.ofNat n)), (.int (Int32.ofNat e)), (.int (Int32.ofNat b))])) _
      refine st3 _ ?_
      show Steps pP.tables eE below (T3.setTop (mkF mM 9 #[.val (.int (Int32.ofNat b)), .val (.int (Int32.ofNat e)), .val (.int (Int32.ofNat n))] [(.int (Int32.ofNat b))])) _
      refine XS.pop X3.here hx rfl (hb hby d_jdk_42_method_158_9) rfl rfl ?_
      show Steps pP.tables eE below (T3.setTop (mkF mM 10 #[.val (.int (Int32.ofNat b)), .val (.int (Int32.ofNat e)), .val (.int (Int32.ofNat n))] [])) _
      exact X3.returnOut hx Bd.returns (hb hby d_jdk_42_method_158_10) hr
    · show Q_cbe Z b e n fm h0 n0 _ T3.heap _
      rw [Kq3]
      exact ⟨rfl, rfl, rfl⟩
  · have Sfm : Sta Z Z.heap "jdk/internal/util/Preconditions" "SIOOBE_FORMATTER" "Ljava/util/function/BiFunction;" (.ref fa) := hfm ▸ S_SIOOBE_FORMATTER
    obtain ⟨T5, X5, e5, st5⟩ := getS2 X0 hx hZ hown (host := "") (Or.inl (w_98 hw)) Via.refl e0 (Sta.ext (O0).2 Sfm) (g := (mkF mM 3 #[.val (.int (Int32.ofNat b)), .val (.int (Int32.ofNat e)), .val (.int (Int32.ofNat n))] [(.int (Int32.ofNat n)), (.int (Int32.ofNat e)), (.int (Int32.ofNat b))])) rfl (hb hby d_jdk_42_method_158_3)
    obtain ⟨_, _, ⟨T6, L6, k6, n6⟩, -, X6, ⟨Lc6, hQ6, l6, y6, z6⟩, st6⟩ := Jvm.LawKit.callS X5 hx (y := (⟨"jdk/internal/util/Preconditions", "checkFromToIndex", "(IIILjava/util/function/BiFunction;)I"⟩ : MethodName)) hown (mvT hZ (w_100 hw)) (mvT hZ (w_101 hw)) (mvT hZ (w_99 hw)) (mvT hZ (w_102 hw)) (by decide) (backOf (W := 0) (rm_cfr l Z a0 hw [] b e n fa h0 n0 O0 hp0) hZ (w_102 hw) (w_99 hw) (by decide) (by decide)) (g := (mkF mM 6 #[.val (.int (Int32.ofNat b)), .val (.int (Int32.ofNat e)), .val (.int (Int32.ofNat n))] [(.ref fa), (.int (Int32.ofNat n)), (.int (Int32.ofNat e)), (.int (Int32.ofNat b))])) rfl (by rw [hml]; rfl) (argsL := [(.int (Int32.ofNat b)), (.int (Int32.ofNat e)), (.int (Int32.ofNat n)), (.ref fa)]) (rest := []) (lenOf pd_9 rfl) rfl (by show 2 * 0 + _ ≤ _; exact Nat.le_of_eq rfl) (hb hby d_jdk_42_method_158_6) (fun _ _ => ⟨rfl, e5, (by decide : 0 + 0 ≤ _), (by decide : 0 + 0 ≤ _)⟩)
    dsimp only [Pt.U, Pt.locs, Pt.cells, Pt.slots] at X6 l6 y6 z6 st6 hQ6
    subst l6 y6 z6
    obtain ⟨rfl, rfl, Kq6⟩ := hQ6
    try rw [List.append_nil] at X6
    obtain ⟨fs, hr, hrun, hended, hW, hsame⟩ := X6.leave (v := none) (fun _ => rfl)
    refine ⟨_, _, pre1 _ ?_, hrun, hended, _, _, rfl, ?_, ⟨_, rfl⟩, hW, hsame.mono (by decide) (by decide)⟩
    · refine st5 _ ?_
      show Steps pP.tables eE below (T5.setTop (mkF mM 6 #[.val (.int (Int32.ofNat b)), .val (.int (Int32.ofNat e)), .val (.int (Int32.ofNat n))] [(.ref fa), (.int (Int32.ofNat n)), (.int (Int32.ofNat e)), (.int (Int32.ofNat b))])) _
      refine st6 _ ?_
      show Steps pP.tables eE below (T6.setTop (mkF mM 9 #[.val (.int (Int32.ofNat b)), .val (.int (Int32.ofNat e)), .val (.int (Int32.ofNat n))] [(.int (Int32.ofNat b))])) _
      refine XS.pop X6.here hx rfl (hb hby d_jdk_42_method_158_9) rfl rfl ?_
      show Steps pP.tables eE below (T6.setTop (mkF mM 10 #[.val (.int (Int32.ofNat b)), .val (.int (Int32.ofNat e)), .val (.int (Int32.ofNat n))] [])) _
      exact X6.returnOut hx Bd.returns (hb hby d_jdk_42_method_158_10) hr
    · show Q_cbe Z b e n fm h0 n0 _ T6.heap _
      rw [Kq6]
      exact ⟨rfl, rfl, rfl⟩
theorem ef_ssub2 (m : MethodId) (x0 : Addr) (x1 : Int32) (x2 : Int32) : entryFrame m #[(.ref x0), (.int x1), (.int x2)] 5 = mkF m 0 #[.val (.ref x0), .val (.int x1), .val (.int x2), .unset, .unset] [] := by first | (simp [entryFrame, mkF, argsToLocals, Value.category]; done) | rfl
def Q_ssub2 (Z : State) (x : Addr) (t : Addr) (kk : ClassId) (cs : List Int32) (b : Nat) (zc : Int32) (fm : Value) (h0 : Heap) (n0 : Nat) (vV : Option Value) (h : Heap) (LL : List Loc) : Prop := ∃ (r : Addr) (t2 : Addr) (k2 : ClassId), vV = some (.ref r) ∧ Fr n0 LL ∧ Keep h0 h [] ∧ own_Str Z h r t2 k2 (cs.drop b)
set_option maxRecDepth 65536 in
set_option maxHeartbeats 40000000 in
theorem rm_ssub2 (l : Launch) (Z : State) (a0 : Array Value) (hw : ∀ d ∈ tables_1, d.before a0 Z = true) (ws : List Jvm.Cond) (x : Addr) (t : Addr) (kk : ClassId) (cs : List Int32) (b : Nat) (zc : Int32) (fm : Value) (h0 : Heap) (n0 : Nat) (O0 : Old Z n0 h0) (Str_x : own_Str Z h0 x t kk cs) (hp1 : (cs.length ≤ 8)) (hp2 : (b ≤ cs.length)) (S_COMPACT_STRINGS : Sta Z Z.heap "java/lang/String" "COMPACT_STRINGS" "Z" (.int zc)) (hp4 : (¬ (zc = (0 : Int32)))) (S_SIOOBE_FORMATTER : Sta Z Z.heap "jdk/internal/util/Preconditions" "SIOOBE_FORMATTER" "Ljava/util/function/BiFunction;" fm) (hp6 : (fm.isRef = true)) :
    MetFree l (⟨"java/lang/String", "substring", "(II)Ljava/lang/String;"⟩ : MethodName) (head1 (Jvm.Cond.code (⟨"java/lang/String", "substring", "(II)Ljava/lang/String;"⟩ : MethodName) jdk_42_method_92_code 5 (some (.object "java/lang/String")) :: ws) ({ frames := 4, cells := 2, slots := 12, locals := 64 } : Room)) (fun aa_ U => aa_ = #[(.ref x), (.int (Int32.ofNat b)), (.int (Int32.ofNat (cs).length))] ∧ Z.Warmed39 U.vm ∧ U.heap = h0 ∧ CHv Z own_EL U.vm h0 ∧ ∀ xX_ ∈ ([] : List Addr), Safe Z own_EL U.vm h0 xX_) (fun _ _ _ _ _ => True) (fun _ U o U' => ∃ vV LL, o = .returned vV ∧ Q_ssub2 Z x t kk cs b zc fm h0 n0 vV U'.heap LL ∧ CHr Z own_EL U.vm U.heap U'.vm U'.heap ∧ ReturnedEndW U o U' LL ({ frames := 4, cells := 2, slots := 12, locals := 64 } : Room).cells ({ frames := 4, cells := 2, slots := 12, locals := 64 } : Room).slots) := by
  refine MetFree.of_bodySF (plainFor_of_name pn_1) hisR ?_
  intro pP eE sS mM args below meth cC s₁ Bd hml0 hP hK
  obtain ⟨rfl, hZ, hh, hCH, hSf⟩ := hP
  have hx := Bd.exec
  have hby := Bd.bytes
  have hml : cC.maxLocals = 5 := hml0
  have hown : sS.vm.findClass "java/lang/String" = some mM.cls := findClass_of_methodNamed Bd.named
  have hnm := (name_of_methodNamed Bd.named Bd.method).1
  have X0 : Stand pP l eE ({ frames := 4, cells := 2, slots := 12, locals := 64 } : Room) (sS.setVm sS.vm) mM #[(.ref x), (.int (Int32.ofNat b)), (.int (Int32.ofNat (cs).length))] below meth cC s₁ [] 0 0 := Stand.of_body Bd
  have e0 : s₁.heap = h0 := by rw [← hh, Bd.state]; rfl
  have N0 := Fr.nil n0
  have pre0 : ∀ tg, Steps pP.tables eE below (s₁.setTop (mkF mM 0 #[.val (.ref x), .val (.int (Int32.ofNat b)), .val (.int (Int32.ofNat (cs).length)), .unset, .unset] [])) tg → Steps pP.tables eE below (s₁.setTop (entryFrame mM #[(.ref x), (.int (Int32.ofNat b)), (.int (Int32.ofNat (cs).length))] 5)) tg := fun tg kg => castTop (ef_ssub2 mM x (Int32.ofNat b) (Int32.ofNat (cs).length)) kg
  have K0 : Keep h0 h0 [] := Keep.refl _ _
  have hZ0 : Z.Warmed39 (sS.setVm sS.vm).vm := hZ
  have hown0 : (sS.setVm sS.vm).vm.findClass "java/lang/String" = some mM.cls := hown
  have hS0 : sS.Since sS.vm 0 := (State.WarmedH.refl sS).since 0
  have hk0 : 0 ≤ h0.size := Nat.zero_le _
  have CH0 : CHr Z own_EL sS.vm h0 sS.vm h0 := CHr.refl hCH
  have hEL := own_EW hw
  have wS := own_wS hw
  obtain ⟨cq1, kq1, q1a, q1b, q1c⟩ := isOf hZ0 e0 (Str_x).1
  obtain ⟨_, _, ⟨T1, L1, k1, n1⟩, -, X1, ⟨Lc1, hQ1, l1, y1, z1⟩, st1⟩ := X0.virtualBack hx (y := (⟨"java/lang/String", "length", "()I"⟩ : MethodName)) (z := (⟨"java/lang/String", "length", "()I"⟩ : MethodName)) hown0 (mvT hZ0 (w_53 hw)) (mvT hZ0 (w_54 hw)) (notFace_of_selects (args := #[]) (mvT hZ0 (w_56 hw))) (mvT hZ0 (w_56 hw)) (mvT hZ0 (w_55 hw)) (by decide) (own_len (W := 0) hZ0 hw (⟨(Str_x).1, (Str_x).2.1, (Str_x).2.2.1, (Str_x).2.2.2.1, (Str_x).2.2.2.2⟩ : own_Str Z h0 x t kk cs) (Sta.ext (O0).2 S_COMPACT_STRINGS) hp4 (by decide) (by decide)) q1a q1c (g := (mkF mM 1 #[.val (.ref x), .val (.int (Int32.ofNat b)), .val (.int (Int32.ofNat (cs).length)), .unset, .unset] [(.ref x)])) rfl (by rw [hml]; rfl) (Steps.refl _) (argsL := []) (rest := []) (lenOf pd_5 rfl) rfl (by show 2 * 0 + _ ≤ _; exact Nat.le_of_eq rfl) (hb hby d_jdk_42_method_92_1) (fun _ _ => ⟨rfl, e0, (by decide : 0 + 0 ≤ _), (by decide : 0 + 0 ≤ _)⟩)
  dsimp only [Pt.U, Pt.locs, Pt.cells, Pt.slots] at X1 l1 y1 z1 st1 hQ1
  subst l1 y1 z1
  obtain ⟨rfl, rfl, Kq1⟩ := hQ1
  try rw [List.append_nil] at X1
  obtain ⟨_, _, ⟨T2, L2, k2, n2⟩, -, X2, ⟨Lc2, hQ2, l2, y2, z2⟩, st2⟩ := Jvm.LawKit.callS X1 hx (y := (⟨"java/lang/String", "checkBoundsBeginEnd", "(III)V"⟩ : MethodName)) hown0 (mvT hZ0 (w_95 hw)) (mvT hZ0 (w_96 hw)) (mvT hZ0 (w_7 hw)) (mvT hZ0 (w_97 hw)) (by decide) (backOf (W := 0) (rm_cbe l Z a0 hw [] b (cs).length (cs).length fm h0 n0 O0 (by omega : b ≤ (cs).length ∧ (cs).length ≤ (cs).length ∧ (cs).length ≤ 4000) S_SIOOBE_FORMATTER hp6) hZ0 (w_97 hw) (w_7 hw) (by decide) (by decide)) (g := (mkF mM 8 #[.val (.ref x), .val (.int (Int32.ofNat b)), .val (.int (Int32.ofNat (cs).length)), .val (.int (Int32.ofNat (cs).length)), .unset] [(.int (Int32.ofNat (cs).length)), (.int (Int32.ofNat (cs).length)), (.int (Int32.ofNat b))])) rfl (by rw [hml]; rfl) (argsL := [(.int (Int32.ofNat b)), (.int (Int32.ofNat (cs).length)), (.int (Int32.ofNat (cs).length))]) (rest := []) (lenOf pd_10 rfl) rfl (by show 2 * 0 + _ ≤ _; exact Nat.le_of_eq rfl) (hb hby d_jdk_42_method_92_8) (fun _ _ => ⟨rfl, Kq1, (by decide : 0 + 0 ≤ _), (by decide : 0 + 0 ≤ _)⟩)
  dsimp only [Pt.U, Pt.locs, Pt.cells, Pt.slots] at X2 l2 y2 z2 st2 hQ2
  subst l2 y2 z2
  obtain ⟨rfl, rfl, Kq2⟩ := hQ2
  try rw [List.append_nil] at X2
  have pre4 : ∀ tg, Steps pP.tables eE below (T2.setTop (mkF mM 12 #[.val (.ref x), .val (.int (Int32.ofNat b)), .val (.int (Int32.ofNat (cs).length)), .val (.int (Int32.ofNat (cs).length)), .unset] [(.int (Int32.ofNat b))])) tg → Steps pP.tables eE below (s₁.setTop (entryFrame mM #[(.ref x), (.int (Int32.ofNat b)), (.int (Int32.ofNat (cs).length))] 5)) tg := fun tg kg => pre0 tg (by
    refine XS.aloadN X0.here hx rfl (hb hby d_jdk_42_method_92_0) rfl rfl ?_
    show Steps pP.tables eE below (s₁.setTop (mkF mM 1 #[.val (.ref x), .val (.int (Int32.ofNat b)), .val (.int (Int32.ofNat (cs).length)), .unset, .unset] [(.ref x)])) _
    refine st1.trans ?_
    show Steps pP.tables eE below (T1.setTop (mkF mM 4 #[.val (.ref x), .val (.int (Int32.ofNat b)), .val (.int (Int32.ofNat (cs).length)), .unset, .unset] [(.int (Int32.ofNat (cs).length))])) _
    refine XS.istoreN X1.here hx rfl (hb hby d_jdk_42_method_92_4) rfl (l' := #[.val (.ref x), .val (.int (Int32.ofNat b)), .val (.int (Int32.ofNat (cs).length)), .val (.int (Int32.ofNat (cs).length)), .unset]) rfl ?_
    show Steps pP.tables eE below (T1.setTop (mkF mM 5 #[.val (.ref x), .val (.int (Int32.ofNat b)), .val (.int (Int32.ofNat (cs).length)), .val (.int (Int32.ofNat (cs).length)), .unset] [])) _
    refine XS.iloadN X1.here hx rfl (hb hby d_jdk_42_method_92_5) rfl ?_
    show Steps pP.tables eE below (T1.setTop (mkF mM 6 #[.val (.ref x), .val (.int (Int32.ofNat b)), .val (.int (Int32.ofNat (cs).length)), .val (.int (Int32.ofNat (cs).length)), .unset] [(.int (Int32.ofNat b))])) _
    refine XS.iloadN X1.here hx rfl (hb hby d_jdk_42_method_92_6) rfl ?_
    show Steps pP.tables eE below (T1.setTop (mkF mM 7 #[.val (.ref x), .val (.int (Int32.ofNat b)), .val (.int (Int32.ofNat (cs).length)), .val (.int (Int32.ofNat (cs).length)), .unset] [(.int (Int32.ofNat (cs).length)), (.int (Int32.ofNat b))])) _
    refine XS.iloadN X1.here hx rfl (hb hby d_jdk_42_method_92_7) rfl ?_
    show Steps pP.tables eE below (T1.setTop (mkF mM 8 #[.val (.ref x), .val (.int (Int32.ofNat b)), .val (.int (Int32.ofNat (cs).length)), .val (.int (Int32.ofNat (cs).length)), .unset] [(.int (Int32.ofNat (cs).length)), (.int (Int32.ofNat (cs).length)), (.int (Int32.ofNat b))])) _
    refine st2 _ ?_
    show Steps pP.tables eE below (T2.setTop (mkF mM 11 #[.val (.ref x), .val (.int (Int32.ofNat b)), .val (.int (Int32.ofNat (cs).length)), .val (.int (Int32.ofNat (cs).length)), .unset] [])) _
    refine XS.iloadN X2.here hx rfl (hb hby d_jdk_42_method_92_11) rfl ?_
    exact kg)
  by_cases hc3 : (Int32.ofNat b) = (0 : Int32)
  · obtain ⟨fs, hr, hrun, hended, hR1, hR2, hR3, hR4⟩ := Stand.leaveW (s := sS) (vm₁ := sS.vm) X2 hS0 (by rw [Kq2]; exact hk0) (v := some (.ref x)) (fun h => by rw [Bd.returns] at h; cases h)
    refine ⟨_, _, pre4 _ ?_, hrun, hended, _, _, rfl, ?_, ?_, hR1, hR2, hR3, hR4.mono (by decide) (by decide)⟩
    · refine XS.ifNo X2.here hx rfl (hb hby d_jdk_42_method_92_12) rfl ((if0 _ _).trans (teq hc3).2) ?_
      show Steps pP.tables eE below (T2.setTop (mkF mM 15 #[.val (.ref x), .val (.int (Int32.ofNat b)), .val (.int (Int32.ofNat (cs).length)), .val (.int (Int32.ofNat (cs).length)), .unset] [])) _
      refine XS.iloadN X2.here hx rfl (hb hby d_jdk_42_method_92_15) rfl ?_
      show Steps pP.tables eE below (T2.setTop (mkF mM 16 #[.val (.ref x), .val (.int (Int32.ofNat b)), .val (.int (Int32.ofNat (cs).length)), .val (.int (Int32.ofNat (cs).length)), .unset] [(.int (Int32.ofNat (cs).length))])) _
      refine XS.iloadN X2.here hx rfl (hb hby d_jdk_42_method_92_16) rfl ?_
      show Steps pP.tables eE below (T2.setTop (mkF mM 17 #[.val (.ref x), .val (.int (Int32.ofNat b)), .val (.int (Int32.ofNat (cs).length)), .val (.int (Int32.ofNat (cs).length)), .unset] [(.int (Int32.ofNat (cs).length)), (.int (Int32.ofNat (cs).length))])) _
      refine XS.icmpNo X2.here hx rfl (hb hby d_jdk_42_method_92_17) rfl (teq (rfl : (Int32.ofNat (cs).length) = (Int32.ofNat (cs).length))).2 ?_
      show Steps pP.tables eE below (T2.setTop (mkF mM 20 #[.val (.ref x), .val (.int (Int32.ofNat b)), .val (.int (Int32.ofNat (cs).length)), .val (.int (Int32.ofNat (cs).length)), .unset] [])) _
      refine XS.aloadN X2.here hx rfl (hb hby d_jdk_42_method_92_20) rfl rfl ?_
      show Steps pP.tables eE below (T2.setTop (mkF mM 21 #[.val (.ref x), .val (.int (Int32.ofNat b)), .val (.int (Int32.ofNat (cs).length)), .val (.int (Int32.ofNat (cs).length)), .unset] [(.ref x)])) _
      jvm_step X2.here [X2.here.top, hx, (hb hby d_jdk_42_method_92_21), X2.method', Bd.returns, Value.isRef, FieldType.isReference]
      first | (intro acts; rw [hr _ acts rfl rfl rfl]) | rw [hr _ _ rfl rfl rfl]
      exact Steps.refl _
    · show Q_ssub2 Z x t kk cs b zc fm h0 n0 _ T2.heap _
      rw [Kq2]
      exact ⟨x, t, kk, rfl, N0, K0, ((own_drop0 cs (own_inj (j := 0) hc3 (by omega) (by omega)) : cs = cs.drop b) ▸ (⟨(Str_x).1, (Str_x).2.1, (Str_x).2.2.1, (Str_x).2.2.2.1, (Str_x).2.2.2.2⟩ : own_Str Z h0 x t kk cs))⟩
    · show CHr Z own_EL sS.vm sS.heap T2.vm T2.heap
      rw [hh, Kq2]
      exact CH0.trans (CHv.at X2 hZ0 hEL CH0.1)
  · obtain ⟨cq6, kq6, q6a, q6b, q6c⟩ := isOf hZ0 Kq2 (Str_x).1
    obtain ⟨_, _, ⟨T6, L6, k6, n6⟩, -, X6, ⟨Lc6, hQ6, l6, y6, z6⟩, st6⟩ := X2.virtualBack hx (y := (⟨"java/lang/String", "isLatin1", "()Z"⟩ : MethodName)) (z := (⟨"java/lang/String", "isLatin1", "()Z"⟩ : MethodName)) hown0 (mvT hZ0 (w_69 hw)) (mvT hZ0 (w_70 hw)) (notFace_of_selects (args := #[]) (mvT hZ0 (w_72 hw))) (mvT hZ0 (w_72 hw)) (mvT hZ0 (w_71 hw)) (by decide) (backOf (W := 0) (rm_lat l Z a0 hw [] x zc h0 n0 O0 (Str_x).2.2.1 S_COMPACT_STRINGS hp4) hZ0 (w_73 hw) (w_7 hw) (by decide) (by decide)) q6a q6c (g := (mkF mM 28 #[.val (.ref x), .val (.int (Int32.ofNat b)), .val (.int (Int32.ofNat (cs).length)), .val (.int (Int32.ofNat (cs).length)), .val (.int (Int32.ofNat (cs.length - b)))] [(.ref x)])) rfl (by rw [hml]; rfl) (Steps.refl _) (argsL := []) (rest := []) (lenOf pd_3 rfl) rfl (by show 2 * 0 + _ ≤ _; exact Nat.le_of_eq rfl) (hb hby d_jdk_42_method_92_28) (fun _ _ => ⟨rfl, Kq2, (by decide : 0 + 0 ≤ _), (by decide : 0 + 0 ≤ _)⟩)
    dsimp only [Pt.U, Pt.locs, Pt.cells, Pt.slots] at X6 l6 y6 z6 st6 hQ6
    subst l6 y6 z6
    obtain ⟨rfl, rfl, Kq6⟩ := hQ6
    try rw [List.append_nil] at X6
    obtain ⟨T7, X7, e7, st7⟩ := getF X6 hx hZ0 hown0 (host := "") (Or.inl (w_24 hw)) Via.refl Kq6 (Str_x).2.1 (g := (mkF mM 35 #[.val (.ref x), .val (.int (Int32.ofNat b)), .val (.int (Int32.ofNat (cs).length)), .val (.int (Int32.ofNat (cs).length)), .val (.int (Int32.ofNat (cs.length - b)))] [(.ref x)])) rfl rfl (hb hby d_jdk_42_method_92_35)
    obtain ⟨_, _, ⟨T8, L8, k8, n8⟩, -, X8, hS28, hg28, ⟨Lc8, hQ8, l8, y8, z8, CHl8⟩, st8⟩ := callSS X7 hx (y := (⟨"java/lang/StringLatin1", "newString", "([BII)Ljava/lang/String;"⟩ : MethodName)) hown0 (mvT hZ0 (w_117 hw)) (mvT hZ0 (w_118 hw)) (mvT hZ0 (w_76 hw)) (mvT hZ0 (w_119 hw)) (by decide) (own_backOfSH (s := sS) (vm0 := sS.vm) (rm := ({ frames := 3, cells := 2, slots := 12, locals := 50 } : Room)) (W := 0) (rm_nst l Z a0 hw [] t kk cs b (cs.length - b) h0 n0 O0 (Str_x).2.2.2.1 hp1 (Str_x.2.2.2.2.2 : ∀ c ∈ cs, ¬ c < 0 ∧ ¬ (255 : Int32) < c) (by omega : b + (cs.length - b) ≤ cs.length) (Nat.pos_of_ne_zero (fun q => hc3 (by rw [q]; rfl)) : 0 < b)) hZ0 (w_119 hw) (w_76 hw) (by decide) (by decide) hEL CH0.1 own_sf0) (g := (mkF mM 41 #[.val (.ref x), .val (.int (Int32.ofNat b)), .val (.int (Int32.ofNat (cs).length)), .val (.int (Int32.ofNat (cs).length)), .val (.int (Int32.ofNat (cs.length - b)))] [(.int (Int32.ofNat (cs.length - b))), (.int (Int32.ofNat b)), (.ref t)])) rfl (by rw [hml]; rfl) (argsL := [(.ref t), (.int (Int32.ofNat b)), (.int (Int32.ofNat (cs.length - b)))]) (rest := []) (lenOf pd_11 rfl) rfl (by show 2 * 0 + _ ≤ _; exact Nat.le_of_eq rfl) (hb hby d_jdk_42_method_92_41) (fun _ _ => ⟨rfl, e7, (by decide : 0 + 2 ≤ _), (by decide : 0 + 12 ≤ _)⟩)
    dsimp only [Pt.U, Pt.locs, Pt.cells, Pt.slots] at X8 l8 y8 z8 st8 hQ8 hS28 hg28 CHl8
    subst l8 y8 z8
    have hS8 := foldS hS0 (by rw [e7]; exact hk0) hS28 hg28
    have hZ8 : Z.Warmed39 (sS.setVm T8.vm).vm := State.Warmed39.trans (t := sS.setVm sS.vm) hZ0 hS28.1
    have hown8 : (sS.setVm T8.vm).vm.findClass "java/lang/String" = some mM.cls := by rw [show (sS.setVm T8.vm).vm = T8.vm from rfl, hS28.1.alike.findClass]; exact hown0
    have hk8 : T8.heap.size ≤ T8.heap.size := Nat.le_refl _
    replace X8 : Stand pP l eE ({ frames := 4, cells := 2, slots := 12, locals := 64 } : Room) (sS.setVm T8.vm) mM _ below meth cC T8 _ _ _ := X8
    obtain ⟨r_8, t2_8, k2_8, rfl, Nq8, Kq8, q8_0⟩ := hQ8
    have N8 := Fr.app N0 Nq8
    have CH9 : CHr Z own_EL sS.vm h0 T8.vm T8.heap := CH0.trans (CHl8)
    skip
    have K11 : Keep h0 T8.heap [] := K0.trans Kq8 all0
    obtain ⟨fs, hr, hrun, hended, hR1, hR2, hR3, hR4⟩ := Stand.leaveW (s := sS) (vm₁ := T8.vm) X8 hS8 (hk8) (v := some (.ref r_8)) (fun h => by rw [Bd.returns] at h; cases h)
    refine ⟨_, _, pre4 _ ?_, hrun, hended, _, _, rfl, ?_, ?_, hR1, hR2, hR3, hR4.mono (by decide) (by decide)⟩
    · refine XS.ifYes X2.here hx rfl (pc0 := 12) (pc' := 22) rfl (hb hby d_jdk_42_method_92_12) rfl ((if0 _ _).trans (feq hc3).2) (by decide) (by decide) ?_
      show Steps pP.tables eE below (T2.setTop (mkF mM 22 #[.val (.ref x), .val (.int (Int32.ofNat b)), .val (.int (Int32.ofNat (cs).length)), .val (.int (Int32.ofNat (cs).length)), .unset] [])) _
      refine XS.iloadN X2.here hx rfl (hb hby d_jdk_42_method_92_22) rfl ?_
      show Steps pP.tables eE below (T2.setTop (mkF mM 23 #[.val (.ref x), .val (.int (Int32.ofNat b)), .val (.int (Int32.ofNat (cs).length)), .val (.int (Int32.ofNat (cs).length)), .unset] [(.int (Int32.ofNat (cs).length))])) _
      refine XS.iloadN X2.here hx rfl (hb hby d_jdk_42_method_92_23) rfl ?_
      show Steps pP.tables eE below (T2.setTop (mkF mM 24 #[.val (.ref x), .val (.int (Int32.ofNat b)), .val (.int (Int32.ofNat (cs).length)), .val (.int (Int32.ofNat (cs).length)), .unset] [(.int (Int32.ofNat b)), (.int (Int32.ofNat (cs).length))])) _
      refine XS.isub X2.here hx rfl (hb hby d_jdk_42_method_92_24) rfl ?_
      show Steps pP.tables eE below (T2.setTop (mkF mM 25 #[.val (.ref x), .val (.int (Int32.ofNat b)), .val (.int (Int32.ofNat (cs).length)), .val (.int (Int32.ofNat (cs).length)), .unset] [(.int ((Int32.ofNat (cs).length) - (Int32.ofNat b)))])) _
      rw [own_subn (show b ≤ cs.length by omega) (by omega)]
      show Steps pP.tables eE below (T2.setTop (mkF mM 25 #[.val (.ref x), .val (.int (Int32.ofNat b)), .val (.int (Int32.ofNat (cs).length)), .val (.int (Int32.ofNat (cs).length)), .unset] [(.int (Int32.ofNat (cs.length - b)))])) _
      refine XS.istore X2.here hx rfl (hb hby d_jdk_42_method_92_25) rfl (l' := #[.val (.ref x), .val (.int (Int32.ofNat b)), .val (.int (Int32.ofNat (cs).length)), .val (.int (Int32.ofNat (cs).length)), .val (.int (Int32.ofNat (cs.length - b)))]) rfl ?_
      show Steps pP.tables eE below (T2.setTop (mkF mM 27 #[.val (.ref x), .val (.int (Int32.ofNat b)), .val (.int (Int32.ofNat (cs).length)), .val (.int (Int32.ofNat (cs).length)), .val (.int (Int32.ofNat (cs.length - b)))] [])) _
      refine XS.aloadN X2.here hx rfl (hb hby d_jdk_42_method_92_27) rfl rfl ?_
      show Steps pP.tables eE below (T2.setTop (mkF mM 28 #[.val (.ref x), .val (.int (Int32.ofNat b)), .val (.int (Int32.ofNat (cs).length)), .val (.int (Int32.ofNat (cs).length)), .val (.int (Int32.ofNat (cs.length - b)))] [(.ref x)])) _
      refine st6.trans ?_
      show Steps pP.tables eE below (T6.setTop (mkF mM 31 #[.val (.ref x), .val (.int (Int32.ofNat b)), .val (.int (Int32.ofNat (cs).length)), .val (.int (Int32.ofNat (cs).length)), .val (.int (Int32.ofNat (cs.length - b)))] [(.int (1 : Int32))])) _
      refine XS.ifNo X6.here hx rfl (hb hby d_jdk_42_method_92_31) rfl ((if0 _ _).trans (feq (by decide : ¬ ((1 : Int32) = (0 : Int32)))).1) ?_
      show Steps pP.tables eE below (T6.setTop (mkF mM 34 #[.val (.ref x), .val (.int (Int32.ofNat b)), .val (.int (Int32.ofNat (cs).length)), .val (.int (Int32.ofNat (cs).length)), .val (.int (Int32.ofNat (cs.length - b)))] [])) _
      refine XS.aloadN X6.here hx rfl (hb hby d_jdk_42_method_92_34) rfl rfl ?_
      show Steps pP.tables eE below (T6.setTop (mkF mM 35 #[.val (.ref x), .val (.int (Int32.ofNat b)), .val (.int (Int32.ofNat (cs).length)), .val (.int (Int32.ofNat (cs).length)), .val (.int (Int32.ofNat (cs.length - b)))] [(.ref x)])) _
      refine st7 _ ?_
      show Steps pP.tables eE below (T7.setTop (mkF mM 38 #[.val (.ref x), .val (.int (Int32.ofNat b)), .val (.int (Int32.ofNat (cs).length)), .val (.int (Int32.ofNat (cs).length)), .val (.int (Int32.ofNat (cs.length - b)))] [(.ref t)])) _
      refine XS.iloadN X7.here hx rfl (hb hby d_jdk_42_method_92_38) rfl ?_
      show Steps pP.tables eE below (T7.setTop (mkF mM 39 #[.val (.ref x), .val (.int (Int32.ofNat b)), .val (.int (Int32.ofNat (cs).length)), .val (.int (Int32.ofNat (cs).length)), .val (.int (Int32.ofNat (cs.length - b)))] [(.int (Int32.ofNat b)), (.ref t)])) _
      refine XS.iload X7.here hx rfl (hb hby d_jdk_42_method_92_39) rfl ?_
      show Steps pP.tables eE below (T7.setTop (mkF mM 41 #[.val (.ref x), .val (.int (Int32.ofNat b)), .val (.int (Int32.ofNat (cs).length)), .val (.int (Int32.ofNat (cs).length)), .val (.int (Int32.ofNat (cs.length - b)))] [(.int (Int32.ofNat (cs.length - b))), (.int (Int32.ofNat b)), (.ref t)])) _
      refine st8.trans ?_
      show Steps pP.tables eE below (T8.setTop (mkF mM 44 #[.val (.ref x), .val (.int (Int32.ofNat b)), .val (.int (Int32.ofNat (cs).length)), .val (.int (Int32.ofNat (cs).length)), .val (.int (Int32.ofNat (cs.length - b)))] [(.ref r_8)])) _
      refine XS.goto X8.here hx rfl (pc0 := 44) (pc' := 57) rfl (hb hby d_jdk_42_method_92_44) (by decide) (by decide) ?_
      show Steps pP.tables eE below (T8.setTop (mkF mM 57 #[.val (.ref x), .val (.int (Int32.ofNat b)), .val (.int (Int32.ofNat (cs).length)), .val (.int (Int32.ofNat (cs).length)), .val (.int (Int32.ofNat (cs.length - b)))] [(.ref r_8)])) _
      jvm_step X8.here [X8.here.top, hx, (hb hby d_jdk_42_method_92_57), X8.method', Bd.returns, Value.isRef, FieldType.isReference]
      first | (intro acts; rw [hr _ acts rfl rfl rfl]) | rw [hr _ _ rfl rfl rfl]
      exact Steps.refl _
    · show Q_ssub2 Z x t kk cs b zc fm h0 n0 _ T8.heap _
      exact ⟨r_8, t2_8, k2_8, rfl, N8, K11, ((own_dropt cs b : (cs.drop b).take (cs.length - b) = cs.drop b) ▸ (⟨(q8_0).1, (q8_0).2.1, (q8_0).2.2.1, (q8_0).2.2.2.1, (q8_0).2.2.2.2⟩ : own_Str Z T8.heap r_8 t2_8 k2_8 ((cs.drop b).take (cs.length - b))))⟩
    · show CHr Z own_EL sS.vm sS.heap T8.vm T8.heap
      rw [hh]
      exact CH9.trans (CHv.at X8 hZ8 hEL CH9.1)
theorem ef_ssub (m : MethodId) (x0 : Addr) (x1 : Int32) : entryFrame m #[(.ref x0), (.int x1)] 2 = mkF m 0 #[.val (.ref x0), .val (.int x1)] [] := by first | (simp [entryFrame, mkF, argsToLocals, Value.category]; done) | rfl
def Q_ssub (Z : State) (x : Addr) (t : Addr) (kk : ClassId) (cs : List Int32) (b : Nat) (zc : Int32) (fm : Value) (h0 : Heap) (n0 : Nat) (vV : Option Value) (h : Heap) (LL : List Loc) : Prop := ∃ (r : Addr) (t2 : Addr) (k2 : ClassId), vV = some (.ref r) ∧ Fr n0 LL ∧ Keep h0 h [] ∧ own_Str Z h r t2 k2 (cs.drop b)
set_option maxRecDepth 65536 in
set_option maxHeartbeats 40000000 in
theorem rm_ssub (l : Launch) (Z : State) (a0 : Array Value) (hw : ∀ d ∈ tables_1, d.before a0 Z = true) (ws : List Jvm.Cond) (x : Addr) (t : Addr) (kk : ClassId) (cs : List Int32) (b : Nat) (zc : Int32) (fm : Value) (h0 : Heap) (n0 : Nat) (O0 : Old Z n0 h0) (Str_x : own_Str Z h0 x t kk cs) (hp1 : (cs.length ≤ 8)) (hp2 : (b ≤ cs.length)) (S_COMPACT_STRINGS : Sta Z Z.heap "java/lang/String" "COMPACT_STRINGS" "Z" (.int zc)) (hp4 : (¬ (zc = (0 : Int32)))) (S_SIOOBE_FORMATTER : Sta Z Z.heap "jdk/internal/util/Preconditions" "SIOOBE_FORMATTER" "Ljava/util/function/BiFunction;" fm) (hp6 : (fm.isRef = true)) :
    MetFree l (⟨"java/lang/String", "substring", "(I)Ljava/lang/String;"⟩ : MethodName) (head1 (Jvm.Cond.code (⟨"java/lang/String", "substring", "(I)Ljava/lang/String;"⟩ : MethodName) jdk_42_method_91_code 2 (some (.object "java/lang/String")) :: ws) ({ frames := 5, cells := 2, slots := 12, locals := 80 } : Room)) (fun aa_ U => aa_ = #[(.ref x), (.int (Int32.ofNat b))] ∧ Z.Warmed39 U.vm ∧ U.heap = h0 ∧ CHv Z own_EL U.vm h0 ∧ ∀ xX_ ∈ ([] : List Addr), Safe Z own_EL U.vm h0 xX_) (fun _ _ _ _ _ => True) (fun _ U o U' => ∃ vV LL, o = .returned vV ∧ Q_ssub Z x t kk cs b zc fm h0 n0 vV U'.heap LL ∧ CHr Z own_EL U.vm U.heap U'.vm U'.heap ∧ ReturnedEndW U o U' LL ({ frames := 5, cells := 2, slots := 12, locals := 80 } : Room).cells ({ frames := 5, cells := 2, slots := 12, locals := 80 } : Room).slots) := by
  refine MetFree.of_bodySF (plainFor_of_name pn_1) hisR ?_
  intro pP eE sS mM args below meth cC s₁ Bd hml0 hP hK
  obtain ⟨rfl, hZ, hh, hCH, hSf⟩ := hP
  have hx := Bd.exec
  have hby := Bd.bytes
  have hml : cC.maxLocals = 2 := hml0
  have hown : sS.vm.findClass "java/lang/String" = some mM.cls := findClass_of_methodNamed Bd.named
  have hnm := (name_of_methodNamed Bd.named Bd.method).1
  have X0 : Stand pP l eE ({ frames := 5, cells := 2, slots := 12, locals := 80 } : Room) (sS.setVm sS.vm) mM #[(.ref x), (.int (Int32.ofNat b))] below meth cC s₁ [] 0 0 := Stand.of_body Bd
  have e0 : s₁.heap = h0 := by rw [← hh, Bd.state]; rfl
  have N0 := Fr.nil n0
  have pre0 : ∀ tg, Steps pP.tables eE below (s₁.setTop (mkF mM 0 #[.val (.ref x), .val (.int (Int32.ofNat b))] [])) tg → Steps pP.tables eE below (s₁.setTop (entryFrame mM #[(.ref x), (.int (Int32.ofNat b))] 2)) tg := fun tg kg => castTop (ef_ssub mM x (Int32.ofNat b)) kg
  have K0 : Keep h0 h0 [] := Keep.refl _ _
  have hZ0 : Z.Warmed39 (sS.setVm sS.vm).vm := hZ
  have hown0 : (sS.setVm sS.vm).vm.findClass "java/lang/String" = some mM.cls := hown
  have hS0 : sS.Since sS.vm 0 := (State.WarmedH.refl sS).since 0
  have hk0 : 0 ≤ h0.size := Nat.zero_le _
  have CH0 : CHr Z own_EL sS.vm h0 sS.vm h0 := CHr.refl hCH
  have hEL := own_EW hw
  have wS := own_wS hw
  obtain ⟨cq1, kq1, q1a, q1b, q1c⟩ := isOf hZ0 e0 (Str_x).1
  obtain ⟨_, _, ⟨T1, L1, k1, n1⟩, -, X1, ⟨Lc1, hQ1, l1, y1, z1⟩, st1⟩ := X0.virtualBack hx (y := (⟨"java/lang/String", "length", "()I"⟩ : MethodName)) (z := (⟨"java/lang/String", "length", "()I"⟩ : MethodName)) hown0 (mvT hZ0 (w_53 hw)) (mvT hZ0 (w_54 hw)) (notFace_of_selects (args := #[]) (mvT hZ0 (w_56 hw))) (mvT hZ0 (w_56 hw)) (mvT hZ0 (w_55 hw)) (by decide) (own_len (W := 2) hZ0 hw (⟨(Str_x).1, (Str_x).2.1, (Str_x).2.2.1, (Str_x).2.2.2.1, (Str_x).2.2.2.2⟩ : own_Str Z h0 x t kk cs) (Sta.ext (O0).2 S_COMPACT_STRINGS) hp4 (by decide) (by decide)) q1a q1c (g := (mkF mM 3 #[.val (.ref x), .val (.int (Int32.ofNat b))] [(.ref x), (.int (Int32.ofNat b)), (.ref x)])) rfl (by rw [hml]; rfl) (Steps.refl _) (argsL := []) (rest := [(.int (Int32.ofNat b)), (.ref x)]) (lenOf pd_5 rfl) rfl (by show 2 * 0 + _ ≤ _; exact Nat.le_of_eq rfl) (hb hby d_jdk_42_method_91_3) (fun _ _ => ⟨rfl, e0, (by decide : 0 + 0 ≤ _), (by decide : 0 + 0 ≤ _)⟩)
  dsimp only [Pt.U, Pt.locs, Pt.cells, Pt.slots] at X1 l1 y1 z1 st1 hQ1
  subst l1 y1 z1
  obtain ⟨rfl, rfl, Kq1⟩ := hQ1
  try rw [List.append_nil] at X1
  obtain ⟨cq2, kq2, q2a, q2b, q2c⟩ := isOf hZ0 Kq1 (Str_x).1
  obtain ⟨_, _, ⟨T2, L2, k2, n2⟩, -, X2, hS22, hg22, ⟨Lc2, hQ2, l2, y2, z2, CHl2⟩, st2⟩ := X1.virtualBackS hx (y := (⟨"java/lang/String", "substring", "(II)Ljava/lang/String;"⟩ : MethodName)) (z := (⟨"java/lang/String", "substring", "(II)Ljava/lang/String;"⟩ : MethodName)) hown0 (mvT hZ0 (w_90 hw)) (mvT hZ0 (w_91 hw)) (notFace_of_selects (args := #[]) (mvT hZ0 (w_93 hw))) (mvT hZ0 (w_93 hw)) (mvT hZ0 (w_92 hw)) (by decide) (own_backOfSH (s := sS) (vm0 := sS.vm) (rm := ({ frames := 4, cells := 2, slots := 12, locals := 64 } : Room)) (W := 0) (rm_ssub2 l Z a0 hw [] x t kk cs b zc fm h0 n0 O0 (⟨(Str_x).1, (Str_x).2.1, (Str_x).2.2.1, (Str_x).2.2.2.1, (Str_x).2.2.2.2⟩ : own_Str Z h0 x t kk cs) hp1 hp2 S_COMPACT_STRINGS hp4 S_SIOOBE_FORMATTER hp6) hZ0 (w_94 hw) (w_7 hw) (by decide) (by decide) hEL CH0.1 own_sf0) q2a q2c (g := (mkF mM 6 #[.val (.ref x), .val (.int (Int32.ofNat b))] [(.int (Int32.ofNat (cs).length)), (.int (Int32.ofNat b)), (.ref x)])) rfl (by rw [hml]; rfl) (Steps.refl _) (argsL := [(.int (Int32.ofNat b)), (.int (Int32.ofNat (cs).length))]) (rest := []) (lenOf pd_12 rfl) rfl (by show 2 * 0 + _ ≤ _; exact Nat.le_of_eq rfl) (hb hby d_jdk_42_method_91_6) (fun _ _ => ⟨rfl, Kq1, (by decide : 0 + 2 ≤ _), (by decide : 0 + 12 ≤ _)⟩)
  dsimp only [Pt.U, Pt.locs, Pt.cells, Pt.slots] at X2 l2 y2 z2 st2 hQ2 hS22 hg22 CHl2
  subst l2 y2 z2
  have hS2 := foldS hS0 (by rw [Kq1]; exact hk0) hS22 hg22
  have hZ2 : Z.Warmed39 (sS.setVm T2.vm).vm := State.Warmed39.trans (t := sS.setVm sS.vm) hZ0 hS22.1
  have hown2 : (sS.setVm T2.vm).vm.findClass "java/lang/String" = some mM.cls := by rw [show (sS.setVm T2.vm).vm = T2.vm from rfl, hS22.1.alike.findClass]; exact hown0
  have hk2 : T2.heap.size ≤ T2.heap.size := Nat.le_refl _
  replace X2 : Stand pP l eE ({ frames := 5, cells := 2, slots := 12, locals := 80 } : Room) (sS.setVm T2.vm) mM _ below meth cC T2 _ _ _ := X2
  obtain ⟨r_2, t2_2, k2_2, rfl, Nq2, Kq2, q2_0⟩ := hQ2
  have N2 := Fr.app N0 Nq2
  have CH3 : CHr Z own_EL sS.vm h0 T2.vm T2.heap := CH0.trans (CHl2)
  skip
  have K5 : Keep h0 T2.heap [] := K0.trans Kq2 all0
  obtain ⟨fs, hr, hrun, hended, hR1, hR2, hR3, hR4⟩ := Stand.leaveW (s := sS) (vm₁ := T2.vm) X2 hS2 (hk2) (v := some (.ref r_2)) (fun h => by rw [Bd.returns] at h; cases h)
  refine ⟨_, _, pre0 _ ?_, hrun, hended, _, _, rfl, ?_, ?_, hR1, hR2, hR3, hR4.mono (by decide) (by decide)⟩
  · refine XS.aloadN X0.here hx rfl (hb hby d_jdk_42_method_91_0) rfl rfl ?_
    show Steps pP.tables eE below (s₁.setTop (mkF mM 1 #[.val (.ref x), .val (.int (Int32.ofNat b))] [(.ref x)])) _
    refine XS.iloadN X0.here hx rfl (hb hby d_jdk_42_method_91_1) rfl ?_
    show Steps pP.tables eE below (s₁.setTop (mkF mM 2 #[.val (.ref x), .val (.int (Int32.ofNat b))] [(.int (Int32.ofNat b)), (.ref x)])) _
    refine XS.aloadN X0.here hx rfl (hb hby d_jdk_42_method_91_2) rfl rfl ?_
    show Steps pP.tables eE below (s₁.setTop (mkF mM 3 #[.val (.ref x), .val (.int (Int32.ofNat b))] [(.ref x), (.int (Int32.ofNat b)), (.ref x)])) _
    refine st1.trans ?_
    show Steps pP.tables eE below (T1.setTop (mkF mM 6 #[.val (.ref x), .val (.int (Int32.ofNat b))] [(.int (Int32.ofNat (cs).length)), (.int (Int32.ofNat b)), (.ref x)])) _
    refine st2.trans ?_
    show Steps pP.tables eE below (T2.setTop (mkF mM 9 #[.val (.ref x), .val (.int (Int32.ofNat b))] [(.ref r_2)])) _
    jvm_step X2.here [X2.here.top, hx, (hb hby d_jdk_42_method_91_9), X2.method', Bd.returns, Value.isRef, FieldType.isReference]
    first | (intro acts; rw [hr _ acts rfl rfl rfl]) | rw [hr _ _ rfl rfl rfl]
    exact Steps.refl _
  · show Q_ssub Z x t kk cs b zc fm h0 n0 _ T2.heap _
    exact ⟨r_2, t2_2, k2_2, rfl, N2, K5, (⟨(q2_0).1, (q2_0).2.1, (q2_0).2.2.1, (q2_0).2.2.2.1, (q2_0).2.2.2.2⟩ : own_Str Z T2.heap r_2 t2_2 k2_2 (cs.drop b))⟩
  · show CHr Z own_EL sS.vm sS.heap T2.vm T2.heap
    rw [hh]
    exact CH3.trans (CHv.at X2 hZ2 hEL CH3.1)
theorem ef_pick (m : MethodId) (x0 : Int32) : entryFrame m #[(.int x0)] 1 = mkF m 0 #[.val (.int x0)] [] := by first | (simp [entryFrame, mkF, argsToLocals, Value.category]; done) | rfl
def Q_pick (Z : State) (p : Int32) (h0 : Heap) (n0 : Nat) (vV : Option Value) (h : Heap) (LL : List Loc) : Prop := vV = some (.int (own_pk p)) ∧ LL = [] ∧ h = h0
set_option maxRecDepth 65536 in
set_option maxHeartbeats 40000000 in
theorem rm_pick (l : Launch) (Z : State) (a0 : Array Value) (hw : ∀ d ∈ tables_1, d.before a0 Z = true) (ws : List Jvm.Cond) (p : Int32) (h0 : Heap) (n0 : Nat) (O0 : Old Z n0 h0) :
    MetFree l (⟨"com/example/ullr/ullr/files/ListedFileNamePinLaw", "pick", "(I)C"⟩ : MethodName) (head1 (Jvm.Cond.code (⟨"com/example/ullr/ullr/files/ListedFileNamePinLaw", "pick", "(I)C"⟩ : MethodName) method_2_code 1 (some .char) :: ws) ({ frames := 0, cells := 0, slots := 0, locals := 0 } : Room)) (fun aa_ U => aa_ = #[(.int p)] ∧ Z.Warmed39 U.vm ∧ U.heap = h0) (fun _ _ _ _ _ => True) (fun _ U o U' => ∃ vV LL, o = .returned vV ∧ Q_pick Z p h0 n0 vV U'.heap LL ∧ FrameEnd U o U' LL ({ frames := 0, cells := 0, slots := 0, locals := 0 } : Room).cells ({ frames := 0, cells := 0, slots := 0, locals := 0 } : Room).slots) := by
  refine MetFree.of_bodySF (plainFor_of_name pn_4) hisR ?_
  intro pP eE sS mM args below meth cC s₁ Bd hml0 hP hK
  obtain ⟨rfl, hZ, hh⟩ := hP
  have hx := Bd.exec
  have hby := Bd.bytes
  have hml : cC.maxLocals = 1 := hml0
  have hown : sS.vm.findClass "com/example/ullr/ullr/files/ListedFileNamePinLaw" = some mM.cls := findClass_of_methodNamed Bd.named
  have hnm := (name_of_methodNamed Bd.named Bd.method).1
  have X0 : Stand pP l eE ({ frames := 0, cells := 0, slots := 0, locals := 0 } : Room) sS mM #[(.int p)] below meth cC s₁ [] 0 0 := Stand.of_body Bd
  have e0 : s₁.heap = h0 := by rw [← hh, Bd.state]; rfl
  have N0 := Fr.nil n0
  have pre0 : ∀ tg, Steps pP.tables eE below (s₁.setTop (mkF mM 0 #[.val (.int p)] [])) tg → Steps pP.tables eE below (s₁.setTop (entryFrame mM #[(.int p)] 1)) tg := fun tg kg => castTop (ef_pick mM p) kg
  have pre2 : ∀ tg, Steps pP.tables eE below (s₁.setTop (mkF mM 3 #[.val (.int p)] [(.int (p &&& (1 : Int32)))])) tg → Steps pP.tables eE below (s₁.setTop (entryFrame mM #[(.int p)] 1)) tg := fun tg kg => pre0 tg (by
    refine XS.iloadN X0.here hx rfl (hb hby d_method_2_0) rfl ?_
    show Steps pP.tables eE below (s₁.setTop (mkF mM 1 #[.val (.int p)] [(.int p)])) _
    refine XS.iconst X0.here hx rfl (hb hby d_method_2_1) ?_
    show Steps pP.tables eE below (s₁.setTop (mkF mM 2 #[.val (.int p)] [(.int (1 : Int32)), (.int p)])) _
    refine XS.iand X0.here hx rfl (hb hby d_method_2_2) rfl ?_
    exact kg)
  by_cases hc1 : (p &&& (1 : Int32)) = (0 : Int32)
  · obtain ⟨fs, hr, hrun, hended, hW, hsame⟩ := X0.leave (v := some (.int (nar .char (47 : Int32)))) (fun h => by rw [Bd.returns] at h; cases h)
    refine ⟨_, _, pre2 _ ?_, hrun, hended, _, _, rfl, ?_, ⟨_, rfl⟩, hW, hsame.mono (by decide) (by decide)⟩
    · refine XS.ifNo X0.here hx rfl (hb hby d_method_2_3) rfl ((if0 _ _).trans (teq hc1).2) ?_
      show Steps pP.tables eE below (s₁.setTop (mkF mM 6 #[.val (.int p)] [])) _
      refine XS.bipush X0.here hx rfl (hb hby d_method_2_6) ?_
      show Steps pP.tables eE below (s₁.setTop (mkF mM 8 #[.val (.int p)] [(.int (47 : Int32))])) _
      exact retN X0 hx (t := .char) Bd.returns (by simp) (hb hby d_method_2_8) hr
    · show Q_pick Z p h0 n0 _ s₁.heap _
      rw [e0]
      exact ⟨(by rw [own_pk, if_pos hc1]; rfl), rfl, rfl⟩
  · obtain ⟨fs, hr, hrun, hended, hW, hsame⟩ := X0.leave (v := some (.int (nar .char (((p.toUInt32 >>> ((1 : Int32) &&& 31).toUInt32).toInt32) &&& (255 : Int32))))) (fun h => by rw [Bd.returns] at h; cases h)
    refine ⟨_, _, pre2 _ ?_, hrun, hended, _, _, rfl, ?_, ⟨_, rfl⟩, hW, hsame.mono (by decide) (by decide)⟩
    · refine XS.ifYes X0.here hx rfl (pc0 := 3) (pc' := 9) rfl (hb hby d_method_2_3) rfl ((if0 _ _).trans (feq hc1).2) (by decide) (by decide) ?_
      show Steps pP.tables eE below (s₁.setTop (mkF mM 9 #[.val (.int p)] [])) _
      refine XS.iloadN X0.here hx rfl (hb hby d_method_2_9) rfl ?_
      show Steps pP.tables eE below (s₁.setTop (mkF mM 10 #[.val (.int p)] [(.int p)])) _
      refine XS.iconst X0.here hx rfl (hb hby d_method_2_10) ?_
      show Steps pP.tables eE below (s₁.setTop (mkF mM 11 #[.val (.int p)] [(.int (1 : Int32)), (.int p)])) _
      refine XS.iushr X0.here hx rfl (hb hby d_method_2_11) rfl ?_
      show Steps pP.tables eE below (s₁.setTop (mkF mM 12 #[.val (.int p)] [(.int ((p.toUInt32 >>> ((1 : Int32) &&& 31).toUInt32).toInt32))])) _
      refine XS.sipush X0.here hx rfl (hb hby d_method_2_12) ?_
      show Steps pP.tables eE below (s₁.setTop (mkF mM 15 #[.val (.int p)] [(.int (255 : Int32)), (.int ((p.toUInt32 >>> ((1 : Int32) &&& 31).toUInt32).toInt32))])) _
      refine XS.iand X0.here hx rfl (hb hby d_method_2_15) rfl ?_
      show Steps pP.tables eE below (s₁.setTop (mkF mM 16 #[.val (.int p)] [(.int (((p.toUInt32 >>> ((1 : Int32) &&& 31).toUInt32).toInt32) &&& (255 : Int32)))])) _
      refine XS.i2c X0.here hx rfl (hb hby d_method_2_16) rfl ?_
      show Steps pP.tables eE below (s₁.setTop (mkF mM 17 #[.val (.int p)] [(.int ((((p.toUInt32 >>> ((1 : Int32) &&& 31).toUInt32).toInt32) &&& (255 : Int32)).toUInt32.toUInt16.toUInt32.toInt32))])) _
      rw [i2c_mask ((p.toUInt32 >>> ((1 : Int32) &&& 31).toUInt32).toInt32)]
      show Steps pP.tables eE below (s₁.setTop (mkF mM 17 #[.val (.int p)] [(.int (((p.toUInt32 >>> ((1 : Int32) &&& 31).toUInt32).toInt32) &&& (255 : Int32)))])) _
      exact retN X0 hx (t := .char) Bd.returns (by simp) (hb hby d_method_2_17) hr
    · show Q_pick Z p h0 n0 _ s₁.heap _
      rw [e0]
      exact ⟨(by rw [own_pk, if_neg hc1]; exact congrArg (fun z => some (Value.int z)) (i2c_mask _)), rfl, rfl⟩
theorem ef_rnn (m : MethodId) (x0 : Addr) (x1 : Addr) : entryFrame m #[(.ref x0), (.ref x1)] 2 = mkF m 0 #[.val (.ref x0), .val (.ref x1)] [] := by first | (simp [entryFrame, mkF, argsToLocals, Value.category]; done) | rfl
def Q_rnn (Z : State) (x : Addr) (y : Addr) (h0 : Heap) (n0 : Nat) (vV : Option Value) (h : Heap) (LL : List Loc) : Prop := vV = some (.ref x) ∧ LL = [] ∧ h = h0
set_option maxRecDepth 65536 in
set_option maxHeartbeats 40000000 in
theorem rm_rnn (l : Launch) (Z : State) (a0 : Array Value) (hw : ∀ d ∈ tables_1, d.before a0 Z = true) (ws : List Jvm.Cond) (x : Addr) (y : Addr) (h0 : Heap) (n0 : Nat) (O0 : Old Z n0 h0) :
    MetFree l (⟨"java/util/Objects", "requireNonNull", "(Ljava/lang/Object;Ljava/lang/String;)Ljava/lang/Object;"⟩ : MethodName) (head1 (Jvm.Cond.code (⟨"java/util/Objects", "requireNonNull", "(Ljava/lang/Object;Ljava/lang/String;)Ljava/lang/Object;"⟩ : MethodName) jdk_31_method_11_code 2 (some (.object "java/lang/Object")) :: ws) ({ frames := 0, cells := 0, slots := 0, locals := 0 } : Room)) (fun aa_ U => aa_ = #[(.ref x), (.ref y)] ∧ Z.Warmed39 U.vm ∧ U.heap = h0) (fun _ _ _ _ _ => True) (fun _ U o U' => ∃ vV LL, o = .returned vV ∧ Q_rnn Z x y h0 n0 vV U'.heap LL ∧ FrameEnd U o U' LL ({ frames := 0, cells := 0, slots := 0, locals := 0 } : Room).cells ({ frames := 0, cells := 0, slots := 0, locals := 0 } : Room).slots) := by
  refine MetFree.of_bodySF (plainFor_of_name pn_5) hisR ?_
  intro pP eE sS mM args below meth cC s₁ Bd hml0 hP hK
  obtain ⟨rfl, hZ, hh⟩ := hP
  have hx := Bd.exec
  have hby := Bd.bytes
  have hml : cC.maxLocals = 2 := hml0
  have hown : sS.vm.findClass "java/util/Objects" = some mM.cls := findClass_of_methodNamed Bd.named
  have hnm := (name_of_methodNamed Bd.named Bd.method).1
  have X0 : Stand pP l eE ({ frames := 0, cells := 0, slots := 0, locals := 0 } : Room) sS mM #[(.ref x), (.ref y)] below meth cC s₁ [] 0 0 := Stand.of_body Bd
  have e0 : s₁.heap = h0 := by rw [← hh, Bd.state]; rfl
  have N0 := Fr.nil n0
  have pre0 : ∀ tg, Steps pP.tables eE below (s₁.setTop (mkF mM 0 #[.val (.ref x), .val (.ref y)] [])) tg → Steps pP.tables eE below (s₁.setTop (entryFrame mM #[(.ref x), (.ref y)] 2)) tg := fun tg kg => castTop (ef_rnn mM x y) kg
  obtain ⟨fs, hr, hrun, hended, hW, hsame⟩ := X0.leave (v := some (.ref x)) (fun h => by rw [Bd.returns] at h; cases h)
  refine ⟨_, _, pre0 _ ?_, hrun, hended, _, _, rfl, ?_, ⟨_, rfl⟩, hW, hsame.mono (by decide) (by decide)⟩
  · refine XS.aloadN X0.here hx rfl (hb hby d_jdk_31_method_11_0) rfl rfl ?_
    show Steps pP.tables eE below (s₁.setTop (mkF mM 1 #[.val (.ref x), .val (.ref y)] [(.ref x)])) _
    refine XS.ifnonnullYes X0.here hx rfl (pc0 := 1) (pc' := 13) rfl (hb hby d_jdk_31_method_11_1) rfl (by decide) (by decide) ?_
    show Steps pP.tables eE below (s₁.setTop (mkF mM 13 #[.val (.ref x), .val (.ref y)] [])) _
    refine XS.aloadN X0.here hx rfl (hb hby d_jdk_31_method_11_13) rfl rfl ?_
    show Steps pP.tables eE below (s₁.setTop (mkF mM 14 #[.val (.ref x), .val (.ref y)] [(.ref x)])) _
    jvm_step X0.here [X0.here.top, hx, (hb hby d_jdk_31_method_11_14), X0.method', Bd.returns, Value.isRef, FieldType.isReference]
    first | (intro acts; rw [hr _ acts rfl rfl rfl]) | rw [hr _ _ rfl rfl rfl]
    exact Steps.refl _
  · show Q_rnn Z x y h0 n0 _ s₁.heap _
    rw [e0]
    exact ⟨rfl, rfl, rfl⟩
theorem ef_fini (m : MethodId) (x0 : Addr) (x1 : Addr) (x2 : Int64) : entryFrame m #[(.ref x0), (.ref x1), (.long x2)] 4 = mkF m 0 #[.val (.ref x0), .val (.ref x1), .val (.long x2), .second] [] := by first | (simp [entryFrame, mkF, argsToLocals, Value.category]; done) | rfl
def Q_fini (Z : State) (a : Addr) (x : Addr) (j : Int64) (u1 : Value) (u2 : Value) (h0 : Heap) (n0 : Nat) (vV : Option Value) (h : Heap) (LL : List Loc) : Prop := vV = none ∧ Fr n0 LL ∧ Keep h0 h [a] ∧ Exa Z h a "com/example/ullr/ullr/files/ListedFile" ∧ Fld Z h a "com/example/ullr/ullr/files/ListedFile" "_path" "Ljava/lang/String;" (.ref x)
set_option maxRecDepth 65536 in
set_option maxHeartbeats 40000000 in
theorem rm_fini (l : Launch) (Z : State) (a0 : Array Value) (hw : ∀ d ∈ tables_1, d.before a0 Z = true) (ws : List Jvm.Cond) (a : Addr) (x : Addr) (j : Int64) (u1 : Value) (u2 : Value) (h0 : Heap) (n0 : Nat) (O0 : Old Z n0 h0) (E_a : Exa Z h0 a "com/example/ullr/ullr/files/ListedFile") (F_a__path : Fld Z h0 a "com/example/ullr/ullr/files/ListedFile" "_path" "Ljava/lang/String;" u1) (F_a__bytes : Fld Z h0 a "com/example/ullr/ullr/files/ListedFile" "_bytes" "J" u2) (g_a : n0 ≤ a) (E_x : Exa Z h0 x "java/lang/String") :
    MetFree l (⟨"com/example/ullr/ullr/files/ListedFile", "<init>", "(Ljava/lang/String;J)V"⟩ : MethodName) (head1 (Jvm.Cond.code (⟨"com/example/ullr/ullr/files/ListedFile", "<init>", "(Ljava/lang/String;J)V"⟩ : MethodName) prog_26_method_1_code 4 none :: ws) ({ frames := 1, cells := 2, slots := 20, locals := 14 } : Room)) (fun aa_ U => aa_ = #[(.ref a), (.ref x), (.long j)] ∧ Z.Warmed39 U.vm ∧ U.heap = h0 ∧ CHv Z own_EL U.vm h0 ∧ ∀ xX_ ∈ ([] : List Addr), Safe Z own_EL U.vm h0 xX_) (fun _ _ _ _ _ => True) (fun _ U o U' => ∃ vV LL, o = .returned vV ∧ Q_fini Z a x j u1 u2 h0 n0 vV U'.heap LL ∧ CHr Z own_EL U.vm U.heap U'.vm U'.heap ∧ ReturnedEndW U o U' LL ({ frames := 1, cells := 2, slots := 20, locals := 14 } : Room).cells ({ frames := 1, cells := 2, slots := 20, locals := 14 } : Room).slots) := by
  refine MetFree.of_bodySF (plainFor_of_name pn_6) hisR ?_
  intro pP eE sS mM args below meth cC s₁ Bd hml0 hP hK
  obtain ⟨rfl, hZ, hh, hCH, hSf⟩ := hP
  have hx := Bd.exec
  have hby := Bd.bytes
  have hml : cC.maxLocals = 4 := hml0
  have hown : sS.vm.findClass "com/example/ullr/ullr/files/ListedFile" = some mM.cls := findClass_of_methodNamed Bd.named
  have hnm := (name_of_methodNamed Bd.named Bd.method).1
  have X0 : Stand pP l eE ({ frames := 1, cells := 2, slots := 20, locals := 14 } : Room) (sS.setVm sS.vm) mM #[(.ref a), (.ref x), (.long j)] below meth cC s₁ [] 0 0 := Stand.of_body Bd
  have e0 : s₁.heap = h0 := by rw [← hh, Bd.state]; rfl
  have N0 := Fr.nil n0
  have pre0 : ∀ tg, Steps pP.tables eE below (s₁.setTop (mkF mM 0 #[.val (.ref a), .val (.ref x), .val (.long j), .second] [])) tg → Steps pP.tables eE below (s₁.setTop (entryFrame mM #[(.ref a), (.ref x), (.long j)] 4)) tg := fun tg kg => castTop (ef_fini mM a x j) kg
  have K0 : Keep h0 h0 [a] := Keep.refl _ _
  have hZ0 : Z.Warmed39 (sS.setVm sS.vm).vm := hZ
  have hown0 : (sS.setVm sS.vm).vm.findClass "com/example/ullr/ullr/files/ListedFile" = some mM.cls := hown
  have hS0 : sS.Since sS.vm 0 := (State.WarmedH.refl sS).since 0
  have hk0 : 0 ≤ h0.size := Nat.zero_le _
  have CH0 : CHr Z own_EL sS.vm h0 sS.vm h0 := CHr.refl hCH
  have hEL := own_EW hw
  have wS := own_wS hw
  obtain ⟨T1, X1, e1, st1⟩ := initO X0 hx hZ0 hown0 (w_32 hw) (w_16 hw) (w_17 hw) e0 (g := (mkF mM 1 #[.val (.ref a), .val (.ref x), .val (.long j), .second] [(.ref a)])) rfl (by rw [hml]; rfl) rfl (hb hby d_prog_26_method_1_1) (by decide) (W := 0) (by show 2 * 0 + _ ≤ _; exact Nat.le_of_eq rfl) (by decide)
  obtain ⟨a2, T2, h2, k2, X2, e2, E2, hS2, hk2, hZ2, hown2, CHl2, Lit2, st2⟩ := ldcOH X1 hx hZ0 hown0 (w_33 hw) wS e1 hS0 hk0 hEL CH0.1 (g := (mkF mM 6 #[.val (.ref a), .val (.ref x), .val (.long j), .second] [(.ref x), (.ref a)])) rfl (hb hby d_prog_26_method_1_6) (n := 16) (by decide) (by decide) (by decide) (by decide)
  have CH3 : CHr Z own_EL sS.vm h0 T2.vm h2 := CH0.trans (CHl2)
  skip
  have K5 : Keep h0 h2 [a] := K0.ext E2
  have f6 := (O0.ext E2)
  obtain ⟨_, _, ⟨T7, L7, k7, n7⟩, -, X7, ⟨Lc7, hQ7, l7, y7, z7⟩, st7⟩ := Jvm.LawKit.callS X2 hx (y := (⟨"java/util/Objects", "requireNonNull", "(Ljava/lang/Object;Ljava/lang/String;)Ljava/lang/Object;"⟩ : MethodName)) hown2 (mvT hZ2 (w_34 hw)) (mvT hZ2 (w_35 hw)) (mvT hZ2 (w_36 hw)) (mvT hZ2 (w_37 hw)) (by decide) (backOf (W := 1) (rm_rnn l Z a0 hw [] x a2 h2 n0 f6 ) hZ2 (w_37 hw) (w_36 hw) (by decide) (by decide)) (g := (mkF mM 8 #[.val (.ref a), .val (.ref x), .val (.long j), .second] [(.ref a2), (.ref x), (.ref a)])) rfl (by rw [hml]; rfl) (argsL := [(.ref x), (.ref a2)]) (rest := [(.ref a)]) (lenOf pd_13 rfl) rfl (by show 2 * 0 + _ ≤ _; exact Nat.le_of_eq rfl) (hb hby d_prog_26_method_1_8) (fun _ _ => ⟨rfl, e2, (by decide : 2 + 0 ≤ _), (by decide : 20 + 0 ≤ _)⟩)
  dsimp only [Pt.U, Pt.locs, Pt.cells, Pt.slots] at X7 l7 y7 z7 st7 hQ7
  subst l7 y7 z7
  obtain ⟨rfl, rfl, Kq7⟩ := hQ7
  try rw [List.append_nil] at X7
  have f8 := (E_x.ext E2)
  obtain ⟨T9, X9, e9, st9⟩ := castY X7 hx hZ2 hown2 (w_38 hw) Kq7 (Ins.self f8) (g := (mkF mM 11 #[.val (.ref a), .val (.ref x), .val (.long j), .second] [(.ref x), (.ref a)])) rfl rfl (hb hby d_prog_26_method_1_11)
  have f10 := (F_a__path.ext E2)
  have f11 := (E_a.ext E2)
  obtain ⟨T12, h12, X12, e12, W12, st12⟩ := putF X9 hx hZ2 hown2 (host := "") (Or.inl (w_39 hw)) Via.refl e9 f10 f11 (Or.inr ⟨(w_40 hw), rfl, hnm⟩) (w_27 hw) (ty := (.object "java/lang/String")) (by decide) rfl rfl (g := (mkF mM 14 #[.val (.ref a), .val (.ref x), .val (.long j), .second] [(.ref x), (.ref a)])) rfl rfl (hb hby d_prog_26_method_1_14)
  have sfp14 := (Safe.exa (EL := own_EL) hZ2.alike f11 (by decide) (by decide))
  have CH13 : CHr Z own_EL sS.vm h0 T2.vm h12 := CH3.trans (CHr.wr W12 sfp14 CH3.1)
  have hk15 := Nat.le_trans hk2 (Nat.le_of_eq W12.size.symm)
  have K16 : Keep h0 h12 [a] := K5.wr W12 (Or.inl (List.mem_of_getElem? (i := 0) rfl))
  have Fw12 : Fld Z h12 a "com/example/ullr/ullr/files/ListedFile" "_path" "Ljava/lang/String;" (.ref x) := f10.same W12
  have N12 := Fr.snoc X12 N0 g_a
  have f17 := ((F_a__bytes.ext E2).other W12 (Or.inr (slot_ne (Or.inr (w_42 hw)) (Or.inr (w_40 hw)) (by decide) (t := .long) (t' := (.object "java/lang/String")) (by decide) (by decide))))
  have f18 := (f11.wr W12)
  obtain ⟨T19, h19, X19, e19, W19, st19⟩ := putF X12 hx hZ2 hown2 (host := "") (Or.inl (w_41 hw)) Via.refl e12 f17 f18 (Or.inr ⟨(w_42 hw), rfl, hnm⟩) (w_27 hw) (ty := .long) (by decide) rfl rfl (g := (mkF mM 19 #[.val (.ref a), .val (.ref x), .val (.long j), .second] [(.long j), (.ref a)])) rfl rfl (hb hby d_prog_26_method_1_19)
  have sfp21 := (Safe.exa (EL := own_EL) hZ2.alike f18 (by decide) (by decide))
  have CH20 : CHr Z own_EL sS.vm h0 T2.vm h19 := CH13.trans (CHr.wr W19 sfp21 CH13.1)
  have hk22 := Nat.le_trans hk15 (Nat.le_of_eq W19.size.symm)
  have K23 : Keep h0 h19 [a] := K16.wr W19 (Or.inl (List.mem_of_getElem? (i := 0) rfl))
  have Fw19 : Fld Z h19 a "com/example/ullr/ullr/files/ListedFile" "_bytes" "J" (.long j) := f17.same W19
  have N19 := Fr.snoc X19 N12 g_a
  have f25 := (f18.wr W19)
  have f26 := (Fw12.other W19 (Or.inr (slot_ne (Or.inr (w_40 hw)) (Or.inr (w_42 hw)) (by decide) (t := (.object "java/lang/String")) (t' := .long) (by decide) (by decide))))
  obtain ⟨fs, hr, hrun, hended, hR1, hR2, hR3, hR4⟩ := Stand.leaveW (s := sS) (vm₁ := T2.vm) X19 hS2 (by rw [e19]; exact hk22) (v := none) (fun _ => rfl)
  refine ⟨_, _, pre0 _ ?_, hrun, hended, _, _, rfl, ?_, ?_, hR1, hR2, hR3, hR4.mono (by decide) (by decide)⟩
  · refine XS.aloadN X0.here hx rfl (hb hby d_prog_26_method_1_0) rfl rfl ?_
    show Steps pP.tables eE below (s₁.setTop (mkF mM 1 #[.val (.ref a), .val (.ref x), .val (.long j), .second] [(.ref a)])) _
    refine st1 _ ?_
    show Steps pP.tables eE below (T1.setTop (mkF mM 4 #[.val (.ref a), .val (.ref x), .val (.long j), .second] [])) _
    refine XS.aloadN X1.here hx rfl (hb hby d_prog_26_method_1_4) rfl rfl ?_
    show Steps pP.tables eE below (T1.setTop (mkF mM 5 #[.val (.ref a), .val (.ref x), .val (.long j), .second] [(.ref a)])) _
    refine XS.aloadN X1.here hx rfl (hb hby d_prog_26_method_1_5) rfl rfl ?_
    show Steps pP.tables eE below (T1.setTop (mkF mM 6 #[.val (.ref a), .val (.ref x), .val (.long j), .second] [(.ref x), (.ref a)])) _
    refine st2 _ ?_
    show Steps pP.tables eE below (T2.setTop (mkF mM 8 #[.val (.ref a), .val (.ref x), .val (.long j), .second] [(.ref a2), (.ref x), (.ref a)])) _
    refine st7 _ ?_
    show Steps pP.tables eE below (T7.setTop (mkF mM 11 #[.val (.ref a), .val (.ref x), .val (.long j), .second] [(.ref x), (.ref a)])) _
    refine st9 _ ?_
    show Steps pP.tables eE below (T9.setTop (mkF mM 14 #[.val (.ref a), .val (.ref x), .val (.long j), .second] [(.ref x), (.ref a)])) _
    refine st12 _ ?_
    show Steps pP.tables eE below (T12.setTop (mkF mM 17 #[.val (.ref a), .val (.ref x), .val (.long j), .second] [])) _
    refine XS.aloadN X12.here hx rfl (hb hby d_prog_26_method_1_17) rfl rfl ?_
    show Steps pP.tables eE below (T12.setTop (mkF mM 18 #[.val (.ref a), .val (.ref x), .val (.long j), .second] [(.ref a)])) _
    refine XS.lloadN X12.here hx rfl (hb hby d_prog_26_method_1_18) rfl ?_
    show Steps pP.tables eE below (T12.setTop (mkF mM 19 #[.val (.ref a), .val (.ref x), .val (.long j), .second] [(.long j), (.ref a)])) _
    refine st19 _ ?_
    show Steps pP.tables eE below (T19.setTop (mkF mM 22 #[.val (.ref a), .val (.ref x), .val (.long j), .second] [])) _
    exact X19.returnOut hx Bd.returns (hb hby d_prog_26_method_1_22) hr
  · show Q_fini Z a x j u1 u2 h0 n0 _ T19.heap _
    rw [e19]
    exact ⟨rfl, N19, K23, f25, f26⟩
  · show CHr Z own_EL sS.vm sS.heap T19.vm T19.heap
    rw [hh, e19]
    exact CH20.trans (CHv.at X19 hZ2 hEL CH20.1)
theorem ef_name (m : MethodId) (x0 : Addr) : entryFrame m #[(.ref x0)] 1 = mkF m 0 #[.val (.ref x0)] [] := by first | (simp [entryFrame, mkF, argsToLocals, Value.category]; done) | rfl
def Q_name (Z : State) (a : Addr) (x : Addr) (t : Addr) (kk : ClassId) (cs : List Int32) (zc : Int32) (fm : Value) (h0 : Heap) (n0 : Nat) (vV : Option Value) (h : Heap) (LL : List Loc) : Prop := ∃ (r : Addr) (t2 : Addr) (k2 : ClassId), vV = some (.ref r) ∧ Fr n0 LL ∧ Keep h0 h [] ∧ own_Str Z h r t2 k2 (cs.drop (own_ln cs (47 : Int32) cs.length))
set_option maxRecDepth 65536 in
set_option maxHeartbeats 40000000 in
theorem rm_name (l : Launch) (Z : State) (a0 : Array Value) (hw : ∀ d ∈ tables_1, d.before a0 Z = true) (ws : List Jvm.Cond) (a : Addr) (x : Addr) (t : Addr) (kk : ClassId) (cs : List Int32) (zc : Int32) (fm : Value) (h0 : Heap) (n0 : Nat) (O0 : Old Z n0 h0) (F_a__path : Fld Z h0 a "com/example/ullr/ullr/files/ListedFile" "_path" "Ljava/lang/String;" (.ref x)) (Str_x : own_Str Z h0 x t kk cs) (hp2 : (cs.length ≤ 8)) (S_COMPACT_STRINGS : Sta Z Z.heap "java/lang/String" "COMPACT_STRINGS" "Z" (.int zc)) (hp4 : (¬ (zc = (0 : Int32)))) (S_SIOOBE_FORMATTER : Sta Z Z.heap "jdk/internal/util/Preconditions" "SIOOBE_FORMATTER" "Ljava/util/function/BiFunction;" fm) (hp6 : (fm.isRef = true)) :
    MetFree l (⟨"com/example/ullr/ullr/files/ListedFile", "name", "()Ljava/lang/String;"⟩ : MethodName) (head1 (Jvm.Cond.code (⟨"com/example/ullr/ullr/files/ListedFile", "name", "()Ljava/lang/String;"⟩ : MethodName) prog_26_method_4_code 1 (some (.object "java/lang/String")) :: ws) ({ frames := 6, cells := 2, slots := 12, locals := 93 } : Room)) (fun aa_ U => aa_ = #[(.ref a)] ∧ Z.Warmed39 U.vm ∧ U.heap = h0 ∧ CHv Z own_EL U.vm h0 ∧ ∀ xX_ ∈ ([] : List Addr), Safe Z own_EL U.vm h0 xX_) (fun _ _ _ _ _ => True) (fun _ U o U' => ∃ vV LL, o = .returned vV ∧ Q_name Z a x t kk cs zc fm h0 n0 vV U'.heap LL ∧ CHr Z own_EL U.vm U.heap U'.vm U'.heap ∧ ReturnedEndW U o U' LL ({ frames := 6, cells := 2, slots := 12, locals := 93 } : Room).cells ({ frames := 6, cells := 2, slots := 12, locals := 93 } : Room).slots) := by
  refine MetFree.of_bodySF (plainFor_of_name pn_6) hisR ?_
  intro pP eE sS mM args below meth cC s₁ Bd hml0 hP hK
  obtain ⟨rfl, hZ, hh, hCH, hSf⟩ := hP
  have hx := Bd.exec
  have hby := Bd.bytes
  have hml : cC.maxLocals = 1 := hml0
  have hown : sS.vm.findClass "com/example/ullr/ullr/files/ListedFile" = some mM.cls := findClass_of_methodNamed Bd.named
  have hnm := (name_of_methodNamed Bd.named Bd.method).1
  have X0 : Stand pP l eE ({ frames := 6, cells := 2, slots := 12, locals := 93 } : Room) (sS.setVm sS.vm) mM #[(.ref a)] below meth cC s₁ [] 0 0 := Stand.of_body Bd
  have e0 : s₁.heap = h0 := by rw [← hh, Bd.state]; rfl
  have N0 := Fr.nil n0
  have pre0 : ∀ tg, Steps pP.tables eE below (s₁.setTop (mkF mM 0 #[.val (.ref a)] [])) tg → Steps pP.tables eE below (s₁.setTop (entryFrame mM #[(.ref a)] 1)) tg := fun tg kg => castTop (ef_name mM a) kg
  have K0 : Keep h0 h0 [] := Keep.refl _ _
  have hZ0 : Z.Warmed39 (sS.setVm sS.vm).vm := hZ
  have hown0 : (sS.setVm sS.vm).vm.findClass "com/example/ullr/ullr/files/ListedFile" = some mM.cls := hown
  have hS0 : sS.Since sS.vm 0 := (State.WarmedH.refl sS).since 0
  have hk0 : 0 ≤ h0.size := Nat.zero_le _
  have CH0 : CHr Z own_EL sS.vm h0 sS.vm h0 := CHr.refl hCH
  have hEL := own_EW hw
  have wS := own_wS hw
  obtain ⟨T1, X1, e1, st1⟩ := getF X0 hx hZ0 hown0 (host := "") (Or.inl (w_39 hw)) Via.refl e0 F_a__path (g := (mkF mM 1 #[.val (.ref a)] [(.ref a)])) rfl rfl (hb hby d_prog_26_method_4_1)
  obtain ⟨T2, X2, e2, st2⟩ := getF X1 hx hZ0 hown0 (host := "") (Or.inl (w_39 hw)) Via.refl e1 F_a__path (g := (mkF mM 5 #[.val (.ref a)] [(.ref a), (.ref x)])) rfl rfl (hb hby d_prog_26_method_4_5)
  obtain ⟨cq3, kq3, q3a, q3b, q3c⟩ := isOf hZ0 e2 (Str_x).1
  obtain ⟨_, _, ⟨T3, L3, k3, n3⟩, -, X3, ⟨Lc3, hQ3, l3, y3, z3⟩, st3⟩ := X2.virtualBack hx (y := (⟨"java/lang/String", "lastIndexOf", "(I)I"⟩ : MethodName)) (z := (⟨"java/lang/String", "lastIndexOf", "(I)I"⟩ : MethodName)) hown0 (mvT hZ0 (w_48 hw)) (mvT hZ0 (w_49 hw)) (notFace_of_selects (args := #[]) (mvT hZ0 (w_51 hw))) (mvT hZ0 (w_51 hw)) (mvT hZ0 (w_50 hw)) (by decide) (backOf (W := 1) (rm_sli l Z a0 hw [] x t kk cs (47 : Int32) zc fm h0 n0 O0 (⟨(Str_x).1, (Str_x).2.1, (Str_x).2.2.1, (Str_x).2.2.2.1, (Str_x).2.2.2.2⟩ : own_Str Z h0 x t kk cs) hp2 (by decide : ¬ (47 : Int32) < 0 ∧ ¬ (255 : Int32) < (47 : Int32)) S_COMPACT_STRINGS hp4 S_SIOOBE_FORMATTER hp6) hZ0 (w_52 hw) (w_7 hw) (by decide) (by decide)) q3a q3c (g := (mkF mM 10 #[.val (.ref a)] [(.int (47 : Int32)), (.ref x), (.ref x)])) rfl (by rw [hml]; rfl) (Steps.refl _) (argsL := [(.int (47 : Int32))]) (rest := [(.ref x)]) (lenOf pd_14 rfl) rfl (by show 2 * 0 + _ ≤ _; exact Nat.le_of_eq rfl) (hb hby d_prog_26_method_4_10) (fun _ _ => ⟨rfl, e2, (by decide : 0 + 0 ≤ _), (by decide : 0 + 0 ≤ _)⟩)
  dsimp only [Pt.U, Pt.locs, Pt.cells, Pt.slots] at X3 l3 y3 z3 st3 hQ3
  subst l3 y3 z3
  obtain ⟨rfl, rfl, Kq3⟩ := hQ3
  try rw [List.append_nil] at X3
  obtain ⟨cq4, kq4, q4a, q4b, q4c⟩ := isOf hZ0 Kq3 (Str_x).1
  obtain ⟨_, _, ⟨T4, L4, k4, n4⟩, -, X4, hS24, hg24, ⟨Lc4, hQ4, l4, y4, z4, CHl4⟩, st4⟩ := X3.virtualBackS hx (y := (⟨"java/lang/String", "substring", "(I)Ljava/lang/String;"⟩ : MethodName)) (z := (⟨"java/lang/String", "substring", "(I)Ljava/lang/String;"⟩ : MethodName)) hown0 (mvT hZ0 (w_85 hw)) (mvT hZ0 (w_86 hw)) (notFace_of_selects (args := #[]) (mvT hZ0 (w_88 hw))) (mvT hZ0 (w_88 hw)) (mvT hZ0 (w_87 hw)) (by decide) (own_backOfSH (s := sS) (vm0 := sS.vm) (rm := ({ frames := 5, cells := 2, slots := 12, locals := 80 } : Room)) (W := 0) (rm_ssub l Z a0 hw [] x t kk cs (own_ln cs (47 : Int32) cs.length) zc fm h0 n0 O0 (⟨(Str_x).1, (Str_x).2.1, (Str_x).2.2.1, (Str_x).2.2.2.1, (Str_x).2.2.2.2⟩ : own_Str Z h0 x t kk cs) hp2 (own_ln_le _ _ _ : (own_ln cs (47 : Int32) cs.length) ≤ cs.length) S_COMPACT_STRINGS hp4 S_SIOOBE_FORMATTER hp6) hZ0 (w_89 hw) (w_7 hw) (by decide) (by decide) hEL CH0.1 own_sf0) q4a q4c (g := (mkF mM 15 #[.val (.ref a)] [(.int (Int32.ofNat (own_ln cs (47 : Int32) cs.length))), (.ref x)])) rfl (by rw [hml]; rfl) (Steps.refl _) (argsL := [(.int (Int32.ofNat (own_ln cs (47 : Int32) cs.length)))]) (rest := []) (lenOf pd_15 rfl) rfl (by show 2 * 0 + _ ≤ _; exact Nat.le_of_eq rfl) (hb hby d_prog_26_method_4_15) (fun _ _ => ⟨rfl, Kq3, (by decide : 0 + 2 ≤ _), (by decide : 0 + 12 ≤ _)⟩)
  dsimp only [Pt.U, Pt.locs, Pt.cells, Pt.slots] at X4 l4 y4 z4 st4 hQ4 hS24 hg24 CHl4
  subst l4 y4 z4
  have hS4 := foldS hS0 (by rw [Kq3]; exact hk0) hS24 hg24
  have hZ4 : Z.Warmed39 (sS.setVm T4.vm).vm := State.Warmed39.trans (t := sS.setVm sS.vm) hZ0 hS24.1
  have hown4 : (sS.setVm T4.vm).vm.findClass "com/example/ullr/ullr/files/ListedFile" = some mM.cls := by rw [show (sS.setVm T4.vm).vm = T4.vm from rfl, hS24.1.alike.findClass]; exact hown0
  have hk4 : T4.heap.size ≤ T4.heap.size := Nat.le_refl _
  replace X4 : Stand pP l eE ({ frames := 6, cells := 2, slots := 12, locals := 93 } : Room) (sS.setVm T4.vm) mM _ below meth cC T4 _ _ _ := X4
  obtain ⟨r_4, t2_4, k2_4, rfl, Nq4, Kq4, q4_0⟩ := hQ4
  have N4 := Fr.app N0 Nq4
  have CH5 : CHr Z own_EL sS.vm h0 T4.vm T4.heap := CH0.trans (CHl4)
  skip
  have K7 : Keep h0 T4.heap [] := K0.trans Kq4 all0
  obtain ⟨fs, hr, hrun, hended, hR1, hR2, hR3, hR4⟩ := Stand.leaveW (s := sS) (vm₁ := T4.vm) X4 hS4 (hk4) (v := some (.ref r_4)) (fun h => by rw [Bd.returns] at h; cases h)
  refine ⟨_, _, pre0 _ ?_, hrun, hended, _, _, rfl, ?_, ?_, hR1, hR2, hR3, hR4.mono (by decide) (by decide)⟩
  · refine XS.aloadN X0.here hx rfl (hb hby d_prog_26_method_4_0) rfl rfl ?_
    show Steps pP.tables eE below (s₁.setTop (mkF mM 1 #[.val (.ref a)] [(.ref a)])) _
    refine st1 _ ?_
    show Steps pP.tables eE below (T1.setTop (mkF mM 4 #[.val (.ref a)] [(.ref x)])) _
    refine XS.aloadN X1.here hx rfl (hb hby d_prog_26_method_4_4) rfl rfl ?_
    show Steps pP.tables eE below (T1.setTop (mkF mM 5 #[.val (.ref a)] [(.ref a), (.ref x)])) _
    refine st2 _ ?_
    show Steps pP.tables eE below (T2.setTop (mkF mM 8 #[.val (.ref a)] [(.ref x), (.ref x)])) _
    refine XS.bipush X2.here hx rfl (hb hby d_prog_26_method_4_8) ?_
    show Steps pP.tables eE below (T2.setTop (mkF mM 10 #[.val (.ref a)] [(.int (47 : Int32)), (.ref x), (.ref x)])) _
    refine st3.trans ?_
    show Steps pP.tables eE below (T3.setTop (mkF mM 13 #[.val (.ref a)] [(.int (own_lx cs (47 : Int32) cs.length)), (.ref x)])) _
    refine XS.iconst X3.here hx rfl (hb hby d_prog_26_method_4_13) ?_
    show Steps pP.tables eE below (T3.setTop (mkF mM 14 #[.val (.ref a)] [(.int (1 : Int32)), (.int (own_lx cs (47 : Int32) cs.length)), (.ref x)])) _
    refine XS.iadd X3.here hx rfl (hb hby d_prog_26_method_4_14) rfl ?_
    show Steps pP.tables eE below (T3.setTop (mkF mM 15 #[.val (.ref a)] [(.int ((own_lx cs (47 : Int32) cs.length) + (1 : Int32))), (.ref x)])) _
    rw [own_lx1 cs (47 : Int32) cs.length]
    show Steps pP.tables eE below (T3.setTop (mkF mM 15 #[.val (.ref a)] [(.int (Int32.ofNat (own_ln cs (47 : Int32) cs.length))), (.ref x)])) _
    refine st4.trans ?_
    show Steps pP.tables eE below (T4.setTop (mkF mM 18 #[.val (.ref a)] [(.ref r_4)])) _
    jvm_step X4.here [X4.here.top, hx, (hb hby d_prog_26_method_4_18), X4.method', Bd.returns, Value.isRef, FieldType.isReference]
    first | (intro acts; rw [hr _ acts rfl rfl rfl]) | rw [hr _ _ rfl rfl rfl]
    exact Steps.refl _
  · show Q_name Z a x t kk cs zc fm h0 n0 _ T4.heap _
    exact ⟨r_4, t2_4, k2_4, rfl, N4, K7, (⟨(q4_0).1, (q4_0).2.1, (q4_0).2.2.1, (q4_0).2.2.2.1, (q4_0).2.2.2.2⟩ : own_Str Z T4.heap r_4 t2_4 k2_4 (cs.drop (own_ln cs (47 : Int32) cs.length)))⟩
  · show CHr Z own_EL sS.vm sS.heap T4.vm T4.heap
    rw [hh]
    exact CH5.trans (CHv.at X4 hZ4 hEL CH5.1)
theorem ef_att (m : MethodId) (x0 : Addr) (x1 : Addr) (x2 : Int32) (x3 : Int32) (x4 : Int32) : entryFrame m #[(.ref x0), (.ref x1), (.int x2), (.int x3), (.int x4)] 5 = mkF m 0 #[.val (.ref x0), .val (.ref x1), .val (.int x2), .val (.int x3), .val (.int x4)] [] := by first | (simp [entryFrame, mkF, argsToLocals, Value.category]; done) | rfl
def Q_att (Z : State) (r : Addr) (t : Addr) (k : ClassId) (cs : List Int32) (kn : Nat) (b : Addr) (kb : ClassId) (as : List Int32) (kv : Int32) (j : Nat) (zc : Int32) (fm : Value) (h0 : Heap) (n0 : Nat) (vV : Option Value) (h : Heap) (LL : List Loc) : Prop := vV = some (.int (1 : Int32)) ∧ LL = [] ∧ h = h0
set_option maxRecDepth 65536 in
set_option maxHeartbeats 40000000 in
theorem rm_att (l : Launch) (Z : State) (a0 : Array Value) (hw : ∀ d ∈ tables_1, d.before a0 Z = true) (ws : List Jvm.Cond) (r : Addr) (t : Addr) (k : ClassId) (cs : List Int32) (kn : Nat) (b : Addr) (kb : ClassId) (as : List Int32) (kv : Int32) (j : Nat) (zc : Int32) (fm : Value) (h0 : Heap) (n0 : Nat) (O0 : Old Z n0 h0) (Str_r : own_Str Z h0 r t k (cs.drop kn)) (V_b : Arv Z h0 b kb .char (4 : Int32) (own_cv as) (.int (0 : Int32))) (hp2 : (kv = own_pr kn)) (hp3 : (kn ≤ cs.length ∧ cs.length ≤ 8 ∧ as.length = 4)) (hp4 : (j < 4)) (hp5 : (j < cs.length → as.getD j 0 = cs.getD j 0)) (S_COMPACT_STRINGS : Sta Z Z.heap "java/lang/String" "COMPACT_STRINGS" "Z" (.int zc)) (hp7 : (¬ (zc = (0 : Int32)))) (S_SIOOBE_FORMATTER : Sta Z Z.heap "jdk/internal/util/Preconditions" "SIOOBE_FORMATTER" "Ljava/util/function/BiFunction;" fm) (hp9 : (fm.isRef = true)) :
    MetFree l (⟨"com/example/ullr/ullr/files/ListedFileNamePinLaw", "at", "(Ljava/lang/String;[CIII)Z"⟩ : MethodName) (head1 (Jvm.Cond.code (⟨"com/example/ullr/ullr/files/ListedFileNamePinLaw", "at", "(Ljava/lang/String;[CIII)Z"⟩ : MethodName) method_3_code 5 (some .boolean) :: ws) ({ frames := 4, cells := 0, slots := 0, locals := 53 } : Room)) (fun aa_ U => aa_ = #[(.ref r), (.ref b), (.int kv), (.int (Int32.ofNat cs.length)), (.int (Int32.ofNat j))] ∧ Z.Warmed39 U.vm ∧ U.heap = h0) (fun _ _ _ _ _ => True) (fun _ U o U' => ∃ vV LL, o = .returned vV ∧ Q_att Z r t k cs kn b kb as kv j zc fm h0 n0 vV U'.heap LL ∧ FrameEnd U o U' LL ({ frames := 4, cells := 0, slots := 0, locals := 53 } : Room).cells ({ frames := 4, cells := 0, slots := 0, locals := 53 } : Room).slots) := by
  refine MetFree.of_bodySF (plainFor_of_name pn_4) hisR ?_
  intro pP eE sS mM args below meth cC s₁ Bd hml0 hP hK
  obtain ⟨rfl, hZ, hh⟩ := hP
  have hx := Bd.exec
  have hby := Bd.bytes
  have hml : cC.maxLocals = 5 := hml0
  have hown : sS.vm.findClass "com/example/ullr/ullr/files/ListedFileNamePinLaw" = some mM.cls := findClass_of_methodNamed Bd.named
  have hnm := (name_of_methodNamed Bd.named Bd.method).1
  have X0 : Stand pP l eE ({ frames := 4, cells := 0, slots := 0, locals := 53 } : Room) sS mM #[(.ref r), (.ref b), (.int kv), (.int (Int32.ofNat cs.length)), (.int (Int32.ofNat j))] below meth cC s₁ [] 0 0 := Stand.of_body Bd
  have e0 : s₁.heap = h0 := by rw [← hh, Bd.state]; rfl
  have N0 := Fr.nil n0
  have pre0 : ∀ tg, Steps pP.tables eE below (s₁.setTop (mkF mM 0 #[.val (.ref r), .val (.ref b), .val (.int kv), .val (.int (Int32.ofNat cs.length)), .val (.int (Int32.ofNat j))] [])) tg → Steps pP.tables eE below (s₁.setTop (entryFrame mM #[(.ref r), (.ref b), (.int kv), (.int (Int32.ofNat cs.length)), (.int (Int32.ofNat j))] 5)) tg := fun tg kg => castTop (ef_att mM r b kv (Int32.ofNat cs.length) (Int32.ofNat j)) kg
  have pre2 : ∀ tg, Steps pP.tables eE below (s₁.setTop (mkF mM 3 #[.val (.ref r), .val (.ref b), .val (.int kv), .val (.int (Int32.ofNat cs.length)), .val (.int (Int32.ofNat j))] [(.int kv), (.int (Int32.ofNat j))])) tg → Steps pP.tables eE below (s₁.setTop (entryFrame mM #[(.ref r), (.ref b), (.int kv), (.int (Int32.ofNat cs.length)), (.int (Int32.ofNat j))] 5)) tg := fun tg kg => pre0 tg (by
    refine XS.iload X0.here hx rfl (hb hby d_method_3_0) rfl ?_
    show Steps pP.tables eE below (s₁.setTop (mkF mM 2 #[.val (.ref r), .val (.ref b), .val (.int kv), .val (.int (Int32.ofNat cs.length)), .val (.int (Int32.ofNat j))] [(.int (Int32.ofNat j))])) _
    refine XS.iloadN X0.here hx rfl (hb hby d_method_3_2) rfl ?_
    exact kg)
  by_cases hc1 : kv < (Int32.ofNat j)
  · have pre4 : ∀ tg, Steps pP.tables eE below (s₁.setTop (mkF mM 9 #[.val (.ref r), .val (.ref b), .val (.int kv), .val (.int (Int32.ofNat cs.length)), .val (.int (Int32.ofNat j))] [(.int (Int32.ofNat cs.length)), (.int (Int32.ofNat j))])) tg → Steps pP.tables eE below (s₁.setTop (entryFrame mM #[(.ref r), (.ref b), (.int kv), (.int (Int32.ofNat cs.length)), (.int (Int32.ofNat j))] 5)) tg := fun tg kg => pre2 tg (by
      refine XS.icmpNo X0.here hx rfl (hb hby d_method_3_3) rfl (tlt hc1).2.2.2 ?_
      show Steps pP.tables eE below (s₁.setTop (mkF mM 6 #[.val (.ref r), .val (.ref b), .val (.int kv), .val (.int (Int32.ofNat cs.length)), .val (.int (Int32.ofNat j))] [])) _
      refine XS.iload X0.here hx rfl (hb hby d_method_3_6) rfl ?_
      show Steps pP.tables eE below (s₁.setTop (mkF mM 8 #[.val (.ref r), .val (.ref b), .val (.int kv), .val (.int (Int32.ofNat cs.length)), .val (.int (Int32.ofNat j))] [(.int (Int32.ofNat j))])) _
      refine XS.iloadN X0.here hx rfl (hb hby d_method_3_8) rfl ?_
      exact kg)
    by_cases hc3 : (Int32.ofNat j) < (Int32.ofNat cs.length)
    · obtain ⟨cq5, kq5, q5a, q5b, q5c⟩ := isOf hZ e0 (Str_r).1
      obtain ⟨_, _, ⟨T5, L5, k5, n5⟩, -, X5, ⟨Lc5, hQ5, l5, y5, z5⟩, st5⟩ := X0.virtualBack hx (y := (⟨"java/lang/String", "charAt", "(I)C"⟩ : MethodName)) (z := (⟨"java/lang/String", "charAt", "(I)C"⟩ : MethodName)) hown (mvT hZ (w_139 hw)) (mvT hZ (w_140 hw)) (notFace_of_selects (args := #[]) (mvT hZ (w_142 hw))) (mvT hZ (w_142 hw)) (mvT hZ (w_141 hw)) (by decide) (own_chr (W := 0) hZ hw (⟨(Str_r).1, (Str_r).2.1, (Str_r).2.2.1, (Str_r).2.2.2.1, (Str_r).2.2.2.2⟩ : own_Str Z h0 r t k (cs.drop kn)) (Sta.ext (O0).2 S_COMPACT_STRINGS) hp7 (Sta.ext (O0).2 S_SIOOBE_FORMATTER) hp9 (i := (j - kn)) (by rw [List.length_drop]; have := own_atlt hc1 hp2 (by omega) hp4; have := own_ltI hc3 (by omega) (by omega); omega) (own_atix hp2 (own_atlt hc1 hp2 (by omega) hp4) hp4) (by decide) (by decide)) q5a q5c (g := (mkF mM 21 #[.val (.ref r), .val (.ref b), .val (.int kv), .val (.int (Int32.ofNat cs.length)), .val (.int (Int32.ofNat j))] [(.int (((Int32.ofNat j) - kv) - (1 : Int32))), (.ref r)])) rfl (by rw [hml]; rfl) (Steps.refl _) (argsL := [(.int (((Int32.ofNat j) - kv) - (1 : Int32)))]) (rest := []) (lenOf pd_16 rfl) rfl (by show 2 * 0 + _ ≤ _; exact Nat.le_of_eq rfl) (hb hby d_method_3_21) (fun _ _ => ⟨rfl, e0, (by decide : 0 + 0 ≤ _), (by decide : 0 + 0 ≤ _)⟩)
      dsimp only [Pt.U, Pt.locs, Pt.cells, Pt.slots] at X5 l5 y5 z5 st5 hQ5
      subst l5 y5 z5
      obtain ⟨rfl, rfl, Kq5⟩ := hQ5
      try rw [List.append_nil] at X5
      obtain ⟨cl6, Ar6, -, S6, Nn6, Hh6, -⟩ := id V_b
      have hin6 : ¬ ((Int32.ofNat j) < 0 ∨ cl6.slots.size ≤ ((Int32.ofNat j)).toNatClampNeg) := inb_of S6 ⟨own_nneg _ (by omega), own_lt (j := 4) (by omega) (by omega)⟩
      have hat6 : cl6.slots[((Int32.ofNat j)).toNatClampNeg]? = some (.int (as.getD j 0)) := Hh6.at hin6 (own_cvget as (by omega) (by omega))
      obtain ⟨fs, hr, hrun, hended, hW, hsame⟩ := X5.leave (v := some (.int (1 : Int32))) (fun h => by rw [Bd.returns] at h; cases h)
      refine ⟨_, _, pre4 _ ?_, hrun, hended, _, _, rfl, ?_, ⟨_, rfl⟩, hW, hsame.mono (by decide) (by decide)⟩
      · refine XS.icmpYes X0.here hx rfl (pc0 := 9) (pc' := 14) rfl (hb hby d_method_3_9) rfl (tlt hc3).1 (by decide) (by decide) ?_
        show Steps pP.tables eE below (s₁.setTop (mkF mM 14 #[.val (.ref r), .val (.ref b), .val (.int kv), .val (.int (Int32.ofNat cs.length)), .val (.int (Int32.ofNat j))] [])) _
        refine XS.aloadN X0.here hx rfl (hb hby d_method_3_14) rfl rfl ?_
        show Steps pP.tables eE below (s₁.setTop (mkF mM 15 #[.val (.ref r), .val (.ref b), .val (.int kv), .val (.int (Int32.ofNat cs.length)), .val (.int (Int32.ofNat j))] [(.ref r)])) _
        refine XS.iload X0.here hx rfl (hb hby d_method_3_15) rfl ?_
        show Steps pP.tables eE below (s₁.setTop (mkF mM 17 #[.val (.ref r), .val (.ref b), .val (.int kv), .val (.int (Int32.ofNat cs.length)), .val (.int (Int32.ofNat j))] [(.int (Int32.ofNat j)), (.ref r)])) _
        refine XS.iloadN X0.here hx rfl (hb hby d_method_3_17) rfl ?_
        show Steps pP.tables eE below (s₁.setTop (mkF mM 18 #[.val (.ref r), .val (.ref b), .val (.int kv), .val (.int (Int32.ofNat cs.length)), .val (.int (Int32.ofNat j))] [(.int kv), (.int (Int32.ofNat j)), (.ref r)])) _
        refine XS.isub X0.here hx rfl (hb hby d_method_3_18) rfl ?_
        show Steps pP.tables eE below (s₁.setTop (mkF mM 19 #[.val (.ref r), .val (.ref b), .val (.int kv), .val (.int (Int32.ofNat cs.length)), .val (.int (Int32.ofNat j))] [(.int ((Int32.ofNat j) - kv)), (.ref r)])) _
        refine XS.iconst X0.here hx rfl (hb hby d_method_3_19) ?_
        show Steps pP.tables eE below (s₁.setTop (mkF mM 20 #[.val (.ref r), .val (.ref b), .val (.int kv), .val (.int (Int32.ofNat cs.length)), .val (.int (Int32.ofNat j))] [(.int (1 : Int32)), (.int ((Int32.ofNat j) - kv)), (.ref r)])) _
        refine XS.isub X0.here hx rfl (hb hby d_method_3_20) rfl ?_
        show Steps pP.tables eE below (s₁.setTop (mkF mM 21 #[.val (.ref r), .val (.ref b), .val (.int kv), .val (.int (Int32.ofNat cs.length)), .val (.int (Int32.ofNat j))] [(.int (((Int32.ofNat j) - kv) - (1 : Int32))), (.ref r)])) _
        refine st5.trans ?_
        show Steps pP.tables eE below (T5.setTop (mkF mM 24 #[.val (.ref r), .val (.ref b), .val (.int kv), .val (.int (Int32.ofNat cs.length)), .val (.int (Int32.ofNat j))] [(.int (((cs.drop kn)).getD (j - kn) 0))])) _
        refine XS.aloadN X5.here hx rfl (hb hby d_method_3_24) rfl rfl ?_
        show Steps pP.tables eE below (T5.setTop (mkF mM 25 #[.val (.ref r), .val (.ref b), .val (.int kv), .val (.int (Int32.ofNat cs.length)), .val (.int (Int32.ofNat j))] [(.ref b), (.int (((cs.drop kn)).getD (j - kn) 0))])) _
        refine XS.iload X5.here hx rfl (hb hby d_method_3_25) rfl ?_
        show Steps pP.tables eE below (T5.setTop (mkF mM 27 #[.val (.ref r), .val (.ref b), .val (.int kv), .val (.int (Int32.ofNat cs.length)), .val (.int (Int32.ofNat j))] [(.int (Int32.ofNat j)), (.ref b), (.int (((cs.drop kn)).getD (j - kn) 0))])) _
        refine X5.caload hx (j := (Int32.ofNat j)) (v := (.int (as.getD j 0))) (by rw [Kq5]; exact Ar6.1) (State.isArrayOf_alike hZ.alike Ar6.2.1) Ar6.2.2 hin6 hat6 (g := (mkF mM 27 #[.val (.ref r), .val (.ref b), .val (.int kv), .val (.int (Int32.ofNat cs.length)), .val (.int (Int32.ofNat j))] [(.int (Int32.ofNat j)), (.ref b), (.int (((cs.drop kn)).getD (j - kn) 0))])) rfl rfl (hb hby d_method_3_27) _ ?_
        show Steps pP.tables eE below (T5.setTop (mkF mM 28 #[.val (.ref r), .val (.ref b), .val (.int kv), .val (.int (Int32.ofNat cs.length)), .val (.int (Int32.ofNat j))] [(.int (as.getD j 0)), (.int (((cs.drop kn)).getD (j - kn) 0))])) _
        refine XS.icmpNo X5.here hx rfl (hb hby d_method_3_28) rfl (teq ((own_dropget cs (own_atlt hc1 hp2 (by omega) hp4)).trans (hp5 (own_ltI hc3 (by omega) (by omega))).symm)).2 ?_
        show Steps pP.tables eE below (T5.setTop (mkF mM 31 #[.val (.ref r), .val (.ref b), .val (.int kv), .val (.int (Int32.ofNat cs.length)), .val (.int (Int32.ofNat j))] [])) _
        refine XS.iconst X5.here hx rfl (hb hby d_method_3_31) ?_
        show Steps pP.tables eE below (T5.setTop (mkF mM 32 #[.val (.ref r), .val (.ref b), .val (.int kv), .val (.int (Int32.ofNat cs.length)), .val (.int (Int32.ofNat j))] [(.int (1 : Int32))])) _
        refine XS.goto X5.here hx rfl (pc0 := 32) (pc' := 36) rfl (hb hby d_method_3_32) (by decide) (by decide) ?_
        show Steps pP.tables eE below (T5.setTop (mkF mM 36 #[.val (.ref r), .val (.ref b), .val (.int kv), .val (.int (Int32.ofNat cs.length)), .val (.int (Int32.ofNat j))] [(.int (1 : Int32))])) _
        exact retN X5 hx (t := .boolean) Bd.returns (by simp) (hb hby d_method_3_36) hr
      · show Q_att Z r t k cs kn b kb as kv j zc fm h0 n0 _ T5.heap _
        rw [Kq5]
        exact ⟨rfl, rfl, rfl⟩
    · obtain ⟨fs, hr, hrun, hended, hW, hsame⟩ := X0.leave (v := some (.int (1 : Int32))) (fun h => by rw [Bd.returns] at h; cases h)
      refine ⟨_, _, pre4 _ ?_, hrun, hended, _, _, rfl, ?_, ⟨_, rfl⟩, hW, hsame.mono (by decide) (by decide)⟩
      · refine XS.icmpNo X0.here hx rfl (hb hby d_method_3_9) rfl (flt hc3).1 ?_
        show Steps pP.tables eE below (s₁.setTop (mkF mM 12 #[.val (.ref r), .val (.ref b), .val (.int kv), .val (.int (Int32.ofNat cs.length)), .val (.int (Int32.ofNat j))] [])) _
        refine XS.iconst X0.here hx rfl (hb hby d_method_3_12) ?_
        show Steps pP.tables eE below (s₁.setTop (mkF mM 13 #[.val (.ref r), .val (.ref b), .val (.int kv), .val (.int (Int32.ofNat cs.length)), .val (.int (Int32.ofNat j))] [(.int (1 : Int32))])) _
        exact retN X0 hx (t := .boolean) Bd.returns (by simp) (hb hby d_method_3_13) hr
      · show Q_att Z r t k cs kn b kb as kv j zc fm h0 n0 _ s₁.heap _
        rw [e0]
        exact ⟨rfl, rfl, rfl⟩
  · obtain ⟨fs, hr, hrun, hended, hW, hsame⟩ := X0.leave (v := some (.int (1 : Int32))) (fun h => by rw [Bd.returns] at h; cases h)
    refine ⟨_, _, pre2 _ ?_, hrun, hended, _, _, rfl, ?_, ⟨_, rfl⟩, hW, hsame.mono (by decide) (by decide)⟩
    · refine XS.icmpYes X0.here hx rfl (pc0 := 3) (pc' := 12) rfl (hb hby d_method_3_3) rfl (flt hc1).2.2.2 (by decide) (by decide) ?_
      show Steps pP.tables eE below (s₁.setTop (mkF mM 12 #[.val (.ref r), .val (.ref b), .val (.int kv), .val (.int (Int32.ofNat cs.length)), .val (.int (Int32.ofNat j))] [])) _
      refine XS.iconst X0.here hx rfl (hb hby d_method_3_12) ?_
      show Steps pP.tables eE below (s₁.setTop (mkF mM 13 #[.val (.ref r), .val (.ref b), .val (.int kv), .val (.int (Int32.ofNat cs.length)), .val (.int (Int32.ofNat j))] [(.int (1 : Int32))])) _
      exact retN X0 hx (t := .boolean) Bd.returns (by simp) (hb hby d_method_3_13) hr
    · show Q_att Z r t k cs kn b kb as kv j zc fm h0 n0 _ s₁.heap _
      rw [e0]
      exact ⟨rfl, rfl, rfl⟩
theorem ef_law (m : MethodId) (x0 : Int32) (x1 : Int32) (x2 : Int32) (x3 : Int32) (x4 : Int32) (x5 : Int64) : entryFrame m #[(.int x0), (.int x1), (.int x2), (.int x3), (.int x4), (.long x5)] maxLocals = mkF m 0 #[.val (.int x0), .val (.int x1), .val (.int x2), .val (.int x3), .val (.int x4), .val (.long x5), .second, .unset, .unset, .unset, .unset, .unset, .unset, .unset, .unset, .unset, .unset] [] := by first | (simp [entryFrame, mkF, argsToLocals, Value.category, maxLocals]; done) | rfl
def Q_law (Z : State) (p0 : Int32) (p1 : Int32) (p2 : Int32) (p3 : Int32) (p4 : Int32) (p5 : Int64) (zc : Int32) (fm : Value) (h0 : Heap) (n0 : Nat) (vV : Option Value) (h : Heap) (LL : List Loc) : Prop := vV = some (.int 1) ∧ Fr n0 LL ∧ Keep h0 h []
set_option maxRecDepth 65536 in
set_option maxHeartbeats 40000000 in
theorem rm_law (l : Launch) (Z : State) (a0 : Array Value) (hw : ∀ d ∈ tables_1, d.before a0 Z = true) (ws : List Jvm.Cond) (p0 : Int32) (p1 : Int32) (p2 : Int32) (p3 : Int32) (p4 : Int32) (p5 : Int64) (zc : Int32) (fm : Value) (h0 : Heap) (n0 : Nat) (O0 : Old Z n0 h0) (S_COMPACT_STRINGS : Sta Z Z.heap "java/lang/String" "COMPACT_STRINGS" "Z" (.int zc)) (hp1 : (¬ (zc = (0 : Int32)))) (S_SIOOBE_FORMATTER : Sta Z Z.heap "jdk/internal/util/Preconditions" "SIOOBE_FORMATTER" "Ljava/util/function/BiFunction;" fm) (hp3 : (fm.isRef = true)) :
    MetFree l x (head1 (Jvm.Cond.code x code maxLocals ret :: ws) room_1) (fun aa_ U => aa_ = #[(.int p0), (.int p1), (.int p2), (.int p3), (.int p4), (.long p5)] ∧ Z.Warmed39 U.vm ∧ U.heap = h0 ∧ CHv Z own_EL U.vm h0 ∧ ∀ xX_ ∈ ([] : List Addr), Safe Z own_EL U.vm h0 xX_) (fun _ _ _ _ _ => True) (fun _ U o U' => ∃ vV LL, o = .returned vV ∧ Q_law Z p0 p1 p2 p3 p4 p5 zc fm h0 n0 vV U'.heap LL ∧ CHr Z own_EL U.vm U.heap U'.vm U'.heap ∧ ReturnedEndW U o U' LL room_1.cells room_1.slots) := by
  refine MetFree.of_bodySF (plainFor_of_name pn_4) hisR ?_
  intro pP eE sS mM args below meth cC s₁ Bd hml0 hP hK
  obtain ⟨rfl, hZ, hh, hCH, hSf⟩ := hP
  have hx := Bd.exec
  have hby := Bd.bytes
  have hml : cC.maxLocals = 17 := hml0
  have hown : sS.vm.findClass "com/example/ullr/ullr/files/ListedFileNamePinLaw" = some mM.cls := findClass_of_methodNamed Bd.named
  have hnm := (name_of_methodNamed Bd.named Bd.method).1
  have X0 : Stand pP l eE room_1 (sS.setVm sS.vm) mM #[(.int p0), (.int p1), (.int p2), (.int p3), (.int p4), (.long p5)] below meth cC s₁ [] 0 0 := Stand.of_body Bd
  have e0 : s₁.heap = h0 := by rw [← hh, Bd.state]; rfl
  have N0 := Fr.nil n0
  have pre0 : ∀ tg, Steps pP.tables eE below (s₁.setTop (mkF mM 0 #[.val (.int p0), .val (.int p1), .val (.int p2), .val (.int p3), .val (.int p4), .val (.long p5), .second, .unset, .unset, .unset, .unset, .unset, .unset, .unset, .unset, .unset, .unset] [])) tg → Steps pP.tables eE below (s₁.setTop (entryFrame mM #[(.int p0), (.int p1), (.int p2), (.int p3), (.int p4), (.long p5)] maxLocals)) tg := fun tg kg => castTop (ef_law mM p0 p1 p2 p3 p4 p5) kg
  have K0 : Keep h0 h0 [] := Keep.refl _ _
  have hZ0 : Z.Warmed39 (sS.setVm sS.vm).vm := hZ
  have hown0 : (sS.setVm sS.vm).vm.findClass "com/example/ullr/ullr/files/ListedFileNamePinLaw" = some mM.cls := hown
  have hS0 : sS.Since sS.vm 0 := (State.WarmedH.refl sS).since 0
  have hk0 : 0 ≤ h0.size := Nat.zero_le _
  have CH0 : CHr Z own_EL sS.vm h0 sS.vm h0 := CHr.refl hCH
  have hEL := own_EW hw
  have wS := own_wS hw
  obtain ⟨nl, hnl, hnc⟩ := own_mod5 p4
  let Ls1 : Array Slot := #[.val (.int p0), .val (.int p1), .val (.int p2), .val (.int p3), .val (.int p4), .val (.long p5), .second, .val (.int nl), .unset, .unset, .unset, .unset, .unset, .unset, .unset, .unset, .unset]
  obtain ⟨_, _, ⟨T2, L2, k2, n2⟩, -, X2, ⟨Lc2, hQ2, l2, y2, z2⟩, st2⟩ := Jvm.LawKit.callS X0 hx (y := (⟨"com/example/ullr/ullr/files/ListedFileNamePinLaw", "pick", "(I)C"⟩ : MethodName)) hown0 (mvT hZ0 (w_0 hw)) (mvT hZ0 (w_1 hw)) (mvT hZ0 (w_2 hw)) (mvT hZ0 (w_3 hw)) (by decide) (backOf (W := 0) (rm_pick l Z a0 hw [] p0 h0 n0 O0 ) hZ0 (w_3 hw) (w_2 hw) (by decide) (by decide)) (g := (mkF mM 10 Ls1 [(.int p0)])) rfl (by rw [hml]; rfl) (argsL := [(.int p0)]) (rest := []) (lenOf pd_16 rfl) rfl (by show 2 * 0 + _ ≤ _; exact Nat.le_of_eq rfl) (hb hby at_10) (fun _ _ => ⟨rfl, e0, (by decide : 0 + 0 ≤ _), (by decide : 0 + 0 ≤ _)⟩)
  dsimp only [Pt.U, Pt.locs, Pt.cells, Pt.slots] at X2 l2 y2 z2 st2 hQ2
  subst l2 y2 z2
  obtain ⟨rfl, rfl, Kq2⟩ := hQ2
  try rw [List.append_nil] at X2
  obtain ⟨x0, hx0⟩ : ∃ z, z = (own_pk p0) := ⟨_, rfl⟩
  have hxb0 : ¬ x0 < 0 ∧ ¬ (255 : Int32) < x0 := hx0 ▸ own_pkb _
  let Ls3 : Array Slot := #[.val (.int p0), .val (.int p1), .val (.int p2), .val (.int p3), .val (.int p4), .val (.long p5), .second, .val (.int nl), .val (.int x0), .unset, .unset, .unset, .unset, .unset, .unset, .unset, .unset]
  obtain ⟨_, _, ⟨T4, L4, k4, n4⟩, -, X4, ⟨Lc4, hQ4, l4, y4, z4⟩, st4⟩ := Jvm.LawKit.callS X2 hx (y := (⟨"com/example/ullr/ullr/files/ListedFileNamePinLaw", "pick", "(I)C"⟩ : MethodName)) hown0 (mvT hZ0 (w_0 hw)) (mvT hZ0 (w_1 hw)) (mvT hZ0 (w_2 hw)) (mvT hZ0 (w_3 hw)) (by decide) (backOf (W := 0) (rm_pick l Z a0 hw [] p1 h0 n0 O0 ) hZ0 (w_3 hw) (w_2 hw) (by decide) (by decide)) (g := (mkF mM 16 Ls3 [(.int p1)])) rfl (by rw [hml]; rfl) (argsL := [(.int p1)]) (rest := []) (lenOf pd_16 rfl) rfl (by show 2 * 0 + _ ≤ _; exact Nat.le_of_eq rfl) (hb hby at_16) (fun _ _ => ⟨rfl, Kq2, (by decide : 0 + 0 ≤ _), (by decide : 0 + 0 ≤ _)⟩)
  dsimp only [Pt.U, Pt.locs, Pt.cells, Pt.slots] at X4 l4 y4 z4 st4 hQ4
  subst l4 y4 z4
  obtain ⟨rfl, rfl, Kq4⟩ := hQ4
  try rw [List.append_nil] at X4
  obtain ⟨x1, hx1⟩ : ∃ z, z = (own_pk p1) := ⟨_, rfl⟩
  have hxb1 : ¬ x1 < 0 ∧ ¬ (255 : Int32) < x1 := hx1 ▸ own_pkb _
  let Ls5 : Array Slot := #[.val (.int p0), .val (.int p1), .val (.int p2), .val (.int p3), .val (.int p4), .val (.long p5), .second, .val (.int nl), .val (.int x0), .val (.int x1), .unset, .unset, .unset, .unset, .unset, .unset, .unset]
  obtain ⟨_, _, ⟨T6, L6, k6, n6⟩, -, X6, ⟨Lc6, hQ6, l6, y6, z6⟩, st6⟩ := Jvm.LawKit.callS X4 hx (y := (⟨"com/example/ullr/ullr/files/ListedFileNamePinLaw", "pick", "(I)C"⟩ : MethodName)) hown0 (mvT hZ0 (w_0 hw)) (mvT hZ0 (w_1 hw)) (mvT hZ0 (w_2 hw)) (mvT hZ0 (w_3 hw)) (by decide) (backOf (W := 0) (rm_pick l Z a0 hw [] p2 h0 n0 O0 ) hZ0 (w_3 hw) (w_2 hw) (by decide) (by decide)) (g := (mkF mM 22 Ls5 [(.int p2)])) rfl (by rw [hml]; rfl) (argsL := [(.int p2)]) (rest := []) (lenOf pd_16 rfl) rfl (by show 2 * 0 + _ ≤ _; exact Nat.le_of_eq rfl) (hb hby at_22) (fun _ _ => ⟨rfl, Kq4, (by decide : 0 + 0 ≤ _), (by decide : 0 + 0 ≤ _)⟩)
  dsimp only [Pt.U, Pt.locs, Pt.cells, Pt.slots] at X6 l6 y6 z6 st6 hQ6
  subst l6 y6 z6
  obtain ⟨rfl, rfl, Kq6⟩ := hQ6
  try rw [List.append_nil] at X6
  obtain ⟨x2, hx2⟩ : ∃ z, z = (own_pk p2) := ⟨_, rfl⟩
  have hxb2 : ¬ x2 < 0 ∧ ¬ (255 : Int32) < x2 := hx2 ▸ own_pkb _
  let Ls7 : Array Slot := #[.val (.int p0), .val (.int p1), .val (.int p2), .val (.int p3), .val (.int p4), .val (.long p5), .second, .val (.int nl), .val (.int x0), .val (.int x1), .val (.int x2), .unset, .unset, .unset, .unset, .unset, .unset]
  obtain ⟨_, _, ⟨T8, L8, k8, n8⟩, -, X8, ⟨Lc8, hQ8, l8, y8, z8⟩, st8⟩ := Jvm.LawKit.callS X6 hx (y := (⟨"com/example/ullr/ullr/files/ListedFileNamePinLaw", "pick", "(I)C"⟩ : MethodName)) hown0 (mvT hZ0 (w_0 hw)) (mvT hZ0 (w_1 hw)) (mvT hZ0 (w_2 hw)) (mvT hZ0 (w_3 hw)) (by decide) (backOf (W := 0) (rm_pick l Z a0 hw [] p3 h0 n0 O0 ) hZ0 (w_3 hw) (w_2 hw) (by decide) (by decide)) (g := (mkF mM 28 Ls7 [(.int p3)])) rfl (by rw [hml]; rfl) (argsL := [(.int p3)]) (rest := []) (lenOf pd_16 rfl) rfl (by show 2 * 0 + _ ≤ _; exact Nat.le_of_eq rfl) (hb hby at_28) (fun _ _ => ⟨rfl, Kq6, (by decide : 0 + 0 ≤ _), (by decide : 0 + 0 ≤ _)⟩)
  dsimp only [Pt.U, Pt.locs, Pt.cells, Pt.slots] at X8 l8 y8 z8 st8 hQ8
  subst l8 y8 z8
  obtain ⟨rfl, rfl, Kq8⟩ := hQ8
  try rw [List.append_nil] at X8
  obtain ⟨x3, hx3⟩ : ∃ z, z = (own_pk p3) := ⟨_, rfl⟩
  have hxb3 : ¬ x3 < 0 ∧ ¬ (255 : Int32) < x3 := hx3 ▸ own_pkb _
  let Ls9 : Array Slot := #[.val (.int p0), .val (.int p1), .val (.int p2), .val (.int p3), .val (.int p4), .val (.long p5), .second, .val (.int nl), .val (.int x0), .val (.int x1), .val (.int x2), .val (.int x3), .unset, .unset, .unset, .unset, .unset]
  obtain ⟨T10, h10, k10, X10, e10, E10, A10, st10⟩ := newP X8 hx hZ0 (aty := .char) (w_4 hw) Kq8 (g := (mkF mM 34 Ls9 [(.int (4 : Int32))])) rfl (hb hby at_34) rfl (by decide) (cap := 4) (by decide) (by decide) (by decide) (by decide)
  obtain ⟨b10, g10⟩ : ∃ z, z = h0.size := ⟨_, rfl⟩
  rw [← g10] at A10 st10
  have Sn_b10 : Safe Z own_EL sS.vm h0 b10 := Safe.new (Nat.le_of_eq g10.symm)
  have g_b10 : n0 ≤ b10 := Nat.le_trans (own_osz O0) (Nat.le_of_eq g10.symm)
  have sz_b10 : h0.size ≤ b10 := Nat.le_trans K0.1 (Nat.le_of_eq g10.symm)
  have CH11 : CHr Z own_EL sS.vm h0 sS.vm h10 := CH0.trans (CHr.ext E10 CH0.1)
  have hk12 := Nat.le_trans hk0 E10.1
  have K13 : Keep h0 h10 [] := K0.ext E10
  have V10 : Arv Z h10 b10 k10 .char (4 : Int32) [(.int (0 : Int32)), (.int (0 : Int32)), (.int (0 : Int32)), (.int (0 : Int32))] (.int (0 : Int32)) := (Arv.new A10 (by decide)).pad (pad_rep [] (.int (0 : Int32)) 4)
  obtain ⟨cl14, Ar14, qk14, S14, Nn14, Hh14, G14⟩ := id V10
  have hin14 : ¬ ((0 : Int32) < 0 ∨ cl14.slots.size ≤ ((0 : Int32)).toNatClampNeg) := inb_of S14 ⟨by decide, by decide⟩
  obtain ⟨T14, h14, X14, e14, W14, st14⟩ := stC X10 hx hZ0 e10 Ar14 (j := (0 : Int32)) hin14 (g := (mkF mM 40 Ls9 [(.int x0), (.int (0 : Int32)), (.ref b10), (.ref b10)])) rfl rfl (hb hby at_40)
  rw [own_nc hxb0] at W14
  have f17 := (Safe.ext E10 CH0.1 Sn_b10)
  have sfp16 := f17
  have CH15 : CHr Z own_EL sS.vm h0 sS.vm h14 := CH11.trans (CHr.wr W14 sfp16 CH11.1)
  have hk18 := Nat.le_trans hk12 (Nat.le_of_eq W14.size.symm)
  have K19 : Keep h0 h14 [] := K13.wr W14 (Or.inr sz_b10)
  have V14 : Arv Z h14 b10 k10 .char (4 : Int32) [(.int x0), (.int (0 : Int32)), (.int (0 : Int32)), (.int (0 : Int32))] (.int (0 : Int32)) := Arv.set Ar14 qk14 S14 Nn14 Hh14 G14 (own_nc hxb0 ▸ fits_nar_char _) W14 0 rfl (Nat.le_of_ble_eq_true rfl)
  have N14 := Fr.snoc X14 N0 g_b10
  obtain ⟨cl20, Ar20, qk20, S20, Nn20, Hh20, G20⟩ := id V14
  have hin20 : ¬ ((1 : Int32) < 0 ∨ cl20.slots.size ≤ ((1 : Int32)).toNatClampNeg) := inb_of S20 ⟨by decide, by decide⟩
  obtain ⟨T20, h20, X20, e20, W20, st20⟩ := stC X14 hx hZ0 e14 Ar20 (j := (1 : Int32)) hin20 (g := (mkF mM 45 Ls9 [(.int x1), (.int (1 : Int32)), (.ref b10), (.ref b10)])) rfl rfl (hb hby at_45)
  rw [own_nc hxb1] at W20
  have f23 := (Safe.wr W14 sfp16 CH11.1 f17)
  have sfp22 := f23
  have CH21 : CHr Z own_EL sS.vm h0 sS.vm h20 := CH15.trans (CHr.wr W20 sfp22 CH15.1)
  have hk24 := Nat.le_trans hk18 (Nat.le_of_eq W20.size.symm)
  have K25 : Keep h0 h20 [] := K19.wr W20 (Or.inr sz_b10)
  have V20 : Arv Z h20 b10 k10 .char (4 : Int32) [(.int x0), (.int x1), (.int (0 : Int32)), (.int (0 : Int32))] (.int (0 : Int32)) := Arv.set Ar20 qk20 S20 Nn20 Hh20 G20 (own_nc hxb1 ▸ fits_nar_char _) W20 1 rfl (Nat.le_of_ble_eq_true rfl)
  have N20 := Fr.snoc X20 N14 g_b10
  obtain ⟨cl26, Ar26, qk26, S26, Nn26, Hh26, G26⟩ := id V20
  have hin26 : ¬ ((2 : Int32) < 0 ∨ cl26.slots.size ≤ ((2 : Int32)).toNatClampNeg) := inb_of S26 ⟨by decide, by decide⟩
  obtain ⟨T26, h26, X26, e26, W26, st26⟩ := stC X20 hx hZ0 e20 Ar26 (j := (2 : Int32)) hin26 (g := (mkF mM 50 Ls9 [(.int x2), (.int (2 : Int32)), (.ref b10), (.ref b10)])) rfl rfl (hb hby at_50)
  rw [own_nc hxb2] at W26
  have f29 := (Safe.wr W20 sfp22 CH15.1 f23)
  have sfp28 := f29
  have CH27 : CHr Z own_EL sS.vm h0 sS.vm h26 := CH21.trans (CHr.wr W26 sfp28 CH21.1)
  have hk30 := Nat.le_trans hk24 (Nat.le_of_eq W26.size.symm)
  have K31 : Keep h0 h26 [] := K25.wr W26 (Or.inr sz_b10)
  have V26 : Arv Z h26 b10 k10 .char (4 : Int32) [(.int x0), (.int x1), (.int x2), (.int (0 : Int32))] (.int (0 : Int32)) := Arv.set Ar26 qk26 S26 Nn26 Hh26 G26 (own_nc hxb2 ▸ fits_nar_char _) W26 2 rfl (Nat.le_of_ble_eq_true rfl)
  have N26 := Fr.snoc X26 N20 g_b10
  obtain ⟨cl32, Ar32, qk32, S32, Nn32, Hh32, G32⟩ := id V26
  have hin32 : ¬ ((3 : Int32) < 0 ∨ cl32.slots.size ≤ ((3 : Int32)).toNatClampNeg) := inb_of S32 ⟨by decide, by decide⟩
  obtain ⟨T32, h32, X32, e32, W32, st32⟩ := stC X26 hx hZ0 e26 Ar32 (j := (3 : Int32)) hin32 (g := (mkF mM 55 Ls9 [(.int x3), (.int (3 : Int32)), (.ref b10), (.ref b10)])) rfl rfl (hb hby at_55)
  rw [own_nc hxb3] at W32
  have f35 := (Safe.wr W26 sfp28 CH21.1 f29)
  have sfp34 := f35
  have CH33 : CHr Z own_EL sS.vm h0 sS.vm h32 := CH27.trans (CHr.wr W32 sfp34 CH27.1)
  have hk36 := Nat.le_trans hk30 (Nat.le_of_eq W32.size.symm)
  have K37 : Keep h0 h32 [] := K31.wr W32 (Or.inr sz_b10)
  have V32 : Arv Z h32 b10 k10 .char (4 : Int32) [(.int x0), (.int x1), (.int x2), (.int x3)] (.int (0 : Int32)) := Arv.set Ar32 qk32 S32 Nn32 Hh32 G32 (own_nc hxb3 ▸ fits_nar_char _) W32 3 rfl (Nat.le_of_ble_eq_true rfl)
  have N32 := Fr.snoc X32 N26 g_b10
  let Ls38 : Array Slot := #[.val (.int p0), .val (.int p1), .val (.int p2), .val (.int p3), .val (.int p4), .val (.long p5), .second, .val (.int nl), .val (.int x0), .val (.int x1), .val (.int x2), .val (.int x3), .val (.ref b10), .unset, .unset, .unset, .unset]
  have pre39 : ∀ tg, Steps pP.tables eE below (T32.setTop (mkF mM 58 Ls38 [])) tg → Steps pP.tables eE below (s₁.setTop (entryFrame mM #[(.int p0), (.int p1), (.int p2), (.int p3), (.int p4), (.long p5)] maxLocals)) tg := fun tg kg => pre0 tg (by
    refine XS.iload X0.here hx rfl (hb hby at_0) rfl ?_
    show Steps pP.tables eE below (s₁.setTop (mkF mM 2 #[.val (.int p0), .val (.int p1), .val (.int p2), .val (.int p3), .val (.int p4), .val (.long p5), .second, .unset, .unset, .unset, .unset, .unset, .unset, .unset, .unset, .unset, .unset] [(.int p4)])) _
    refine XS.bipush X0.here hx rfl (hb hby at_2) ?_
    show Steps pP.tables eE below (s₁.setTop (mkF mM 4 #[.val (.int p0), .val (.int p1), .val (.int p2), .val (.int p3), .val (.int p4), .val (.long p5), .second, .unset, .unset, .unset, .unset, .unset, .unset, .unset, .unset, .unset, .unset] [(.int (7 : Int32)), (.int p4)])) _
    refine XS.iand X0.here hx rfl (hb hby at_4) rfl ?_
    show Steps pP.tables eE below (s₁.setTop (mkF mM 5 #[.val (.int p0), .val (.int p1), .val (.int p2), .val (.int p3), .val (.int p4), .val (.long p5), .second, .unset, .unset, .unset, .unset, .unset, .unset, .unset, .unset, .unset, .unset] [(.int (p4 &&& (7 : Int32)))])) _
    refine XS.iconst X0.here hx rfl (hb hby at_5) ?_
    show Steps pP.tables eE below (s₁.setTop (mkF mM 6 #[.val (.int p0), .val (.int p1), .val (.int p2), .val (.int p3), .val (.int p4), .val (.long p5), .second, .unset, .unset, .unset, .unset, .unset, .unset, .unset, .unset, .unset, .unset] [(.int (5 : Int32)), (.int (p4 &&& (7 : Int32)))])) _
    refine iremM X0 hx (g := (mkF mM 6 #[.val (.int p0), .val (.int p1), .val (.int p2), .val (.int p3), .val (.int p4), .val (.long p5), .second, .unset, .unset, .unset, .unset, .unset, .unset, .unset, .unset, .unset, .unset] [(.int (5 : Int32)), (.int (p4 &&& (7 : Int32)))])) rfl (hb hby at_6) rfl (by decide) ?_
    show Steps pP.tables eE below (s₁.setTop (mkF mM 7 #[.val (.int p0), .val (.int p1), .val (.int p2), .val (.int p3), .val (.int p4), .val (.long p5), .second, .unset, .unset, .unset, .unset, .unset, .unset, .unset, .unset, .unset, .unset] [(.int ((p4 &&& (7 : Int32)) % (5 : Int32)))])) _
    rw [hnl]
    show Steps pP.tables eE below (s₁.setTop (mkF mM 7 #[.val (.int p0), .val (.int p1), .val (.int p2), .val (.int p3), .val (.int p4), .val (.long p5), .second, .unset, .unset, .unset, .unset, .unset, .unset, .unset, .unset, .unset, .unset] [(.int nl)])) _
    refine XS.istore X0.here hx rfl (hb hby at_7) rfl (l' := Ls1) rfl ?_
    show Steps pP.tables eE below (s₁.setTop (mkF mM 9 Ls1 [])) _
    refine XS.iloadN X0.here hx rfl (hb hby at_9) rfl ?_
    show Steps pP.tables eE below (s₁.setTop (mkF mM 10 Ls1 [(.int p0)])) _
    refine st2 _ ?_
    show Steps pP.tables eE below (T2.setTop (mkF mM 13 Ls1 [(.int (own_pk p0))])) _
    rw [← hx0]
    show Steps pP.tables eE below (T2.setTop (mkF mM 13 Ls1 [(.int x0)])) _
    refine XS.istore X2.here hx rfl (hb hby at_13) rfl (l' := Ls3) rfl ?_
    show Steps pP.tables eE below (T2.setTop (mkF mM 15 Ls3 [])) _
    refine XS.iloadN X2.here hx rfl (hb hby at_15) rfl ?_
    show Steps pP.tables eE below (T2.setTop (mkF mM 16 Ls3 [(.int p1)])) _
    refine st4 _ ?_
    show Steps pP.tables eE below (T4.setTop (mkF mM 19 Ls3 [(.int (own_pk p1))])) _
    rw [← hx1]
    show Steps pP.tables eE below (T4.setTop (mkF mM 19 Ls3 [(.int x1)])) _
    refine XS.istore X4.here hx rfl (hb hby at_19) rfl (l' := Ls5) rfl ?_
    show Steps pP.tables eE below (T4.setTop (mkF mM 21 Ls5 [])) _
    refine XS.iloadN X4.here hx rfl (hb hby at_21) rfl ?_
    show Steps pP.tables eE below (T4.setTop (mkF mM 22 Ls5 [(.int p2)])) _
    refine st6 _ ?_
    show Steps pP.tables eE below (T6.setTop (mkF mM 25 Ls5 [(.int (own_pk p2))])) _
    rw [← hx2]
    show Steps pP.tables eE below (T6.setTop (mkF mM 25 Ls5 [(.int x2)])) _
    refine XS.istore X6.here hx rfl (hb hby at_25) rfl (l' := Ls7) rfl ?_
    show Steps pP.tables eE below (T6.setTop (mkF mM 27 Ls7 [])) _
    refine XS.iloadN X6.here hx rfl (hb hby at_27) rfl ?_
    show Steps pP.tables eE below (T6.setTop (mkF mM 28 Ls7 [(.int p3)])) _
    refine st8 _ ?_
    show Steps pP.tables eE below (T8.setTop (mkF mM 31 Ls7 [(.int (own_pk p3))])) _
    rw [← hx3]
    show Steps pP.tables eE below (T8.setTop (mkF mM 31 Ls7 [(.int x3)])) _
    refine XS.istore X8.here hx rfl (hb hby at_31) rfl (l' := Ls9) rfl ?_
    show Steps pP.tables eE below (T8.setTop (mkF mM 33 Ls9 [])) _
    refine XS.iconst X8.here hx rfl (hb hby at_33) ?_
    show Steps pP.tables eE below (T8.setTop (mkF mM 34 Ls9 [(.int (4 : Int32))])) _
    refine st10 _ ?_
    show Steps pP.tables eE below (T10.setTop (mkF mM 36 Ls9 [(.ref b10)])) _
    refine XS.dup X10.here hx rfl (hb hby at_36) rfl rfl ?_
    show Steps pP.tables eE below (T10.setTop (mkF mM 37 Ls9 [(.ref b10), (.ref b10)])) _
    refine XS.iconst X10.here hx rfl (hb hby at_37) ?_
    show Steps pP.tables eE below (T10.setTop (mkF mM 38 Ls9 [(.int (0 : Int32)), (.ref b10), (.ref b10)])) _
    refine XS.iload X10.here hx rfl (hb hby at_38) rfl ?_
    show Steps pP.tables eE below (T10.setTop (mkF mM 40 Ls9 [(.int x0), (.int (0 : Int32)), (.ref b10), (.ref b10)])) _
    refine st14 _ ?_
    show Steps pP.tables eE below (T14.setTop (mkF mM 41 Ls9 [(.ref b10)])) _
    refine XS.dup X14.here hx rfl (hb hby at_41) rfl rfl ?_
    show Steps pP.tables eE below (T14.setTop (mkF mM 42 Ls9 [(.ref b10), (.ref b10)])) _
    refine XS.iconst X14.here hx rfl (hb hby at_42) ?_
    show Steps pP.tables eE below (T14.setTop (mkF mM 43 Ls9 [(.int (1 : Int32)), (.ref b10), (.ref b10)])) _
    refine XS.iload X14.here hx rfl (hb hby at_43) rfl ?_
    show Steps pP.tables eE below (T14.setTop (mkF mM 45 Ls9 [(.int x1), (.int (1 : Int32)), (.ref b10), (.ref b10)])) _
    refine st20 _ ?_
    show Steps pP.tables eE below (T20.setTop (mkF mM 46 Ls9 [(.ref b10)])) _
    refine XS.dup X20.here hx rfl (hb hby at_46) rfl rfl ?_
    show Steps pP.tables eE below (T20.setTop (mkF mM 47 Ls9 [(.ref b10), (.ref b10)])) _
    refine XS.iconst X20.here hx rfl (hb hby at_47) ?_
    show Steps pP.tables eE below (T20.setTop (mkF mM 48 Ls9 [(.int (2 : Int32)), (.ref b10), (.ref b10)])) _
    refine XS.iload X20.here hx rfl (hb hby at_48) rfl ?_
    show Steps pP.tables eE below (T20.setTop (mkF mM 50 Ls9 [(.int x2), (.int (2 : Int32)), (.ref b10), (.ref b10)])) _
    refine st26 _ ?_
    show Steps pP.tables eE below (T26.setTop (mkF mM 51 Ls9 [(.ref b10)])) _
    refine XS.dup X26.here hx rfl (hb hby at_51) rfl rfl ?_
    show Steps pP.tables eE below (T26.setTop (mkF mM 52 Ls9 [(.ref b10), (.ref b10)])) _
    refine XS.iconst X26.here hx rfl (hb hby at_52) ?_
    show Steps pP.tables eE below (T26.setTop (mkF mM 53 Ls9 [(.int (3 : Int32)), (.ref b10), (.ref b10)])) _
    refine XS.iload X26.here hx rfl (hb hby at_53) rfl ?_
    show Steps pP.tables eE below (T26.setTop (mkF mM 55 Ls9 [(.int x3), (.int (3 : Int32)), (.ref b10), (.ref b10)])) _
    refine st32 _ ?_
    show Steps pP.tables eE below (T32.setTop (mkF mM 56 Ls9 [(.ref b10)])) _
    refine XS.astore X32.here hx rfl (hb hby at_56) rfl rfl (l' := Ls38) rfl ?_
    exact kg)
  rcases hnc with rfl | rfl | rfl | rfl | rfl
  · let Ls40 : Array Slot := #[.val (.int p0), .val (.int p1), .val (.int p2), .val (.int p3), .val (.int p4), .val (.long p5), .second, .val (.int (0 : Int32)), .val (.int x0), .val (.int x1), .val (.int x2), .val (.int x3), .val (.ref b10), .unset, .unset, .unset, .unset]
    have hcs : ∀ c ∈ ([] : List Int32), ¬ c < 0 ∧ ¬ (255 : Int32) < c := by
      intro c hc
      cases hc
    obtain ⟨T41, h41, X41, e41, E41, A41, D41, -, st41⟩ := newO X32 hx hZ0 hown0 (w_5 hw) (w_6 hw) (w_7 hw) e32 (g := (mkF mM 63 Ls40 [])) rfl (hb hby at_63) (by decide) (by decide)
    obtain ⟨b41, g41⟩ : ∃ z, z = h32.size := ⟨_, rfl⟩
    rw [← g41] at A41 D41 st41
    have Sn_b41 : Safe Z own_EL sS.vm h32 b41 := Safe.new (Nat.le_of_eq g41.symm)
    have f42 := (((((O0.ext E10).wr W14 g_b10).wr W20 g_b10).wr W26 g_b10).wr W32 g_b10)
    have g_b41 : n0 ≤ b41 := Nat.le_trans (own_osz f42) (Nat.le_of_eq g41.symm)
    have sz_b41 : h0.size ≤ b41 := Nat.le_trans K37.1 (Nat.le_of_eq g41.symm)
    have CH43 : CHr Z own_EL sS.vm h0 sS.vm h41 := CH33.trans (CHr.ext E41 CH33.1)
    have hk44 := Nat.le_trans hk36 E41.1
    have K45 : Keep h0 h41 [] := K37.ext E41
    have F_b41_value : Fld Z h41 b41 "java/lang/String" "value" "[B" .null := D41 (Or.inr (w_20 hw)) (ty := (.array .byte)) (by decide)
    have F_b41_coder : Fld Z h41 b41 "java/lang/String" "coder" "B" (.int (0 : Int32)) := D41 (Or.inr (w_21 hw)) (ty := .byte) (by decide)
    obtain ⟨T46, h46, k46, X46, e46, E46, A46, st46⟩ := newP X41 hx hZ0 (aty := .char) (w_4 hw) e41 (g := (mkF mM 68 Ls40 [(.int (0 : Int32)), (.ref b41), (.ref b41)])) rfl (hb hby at_68) rfl (by decide) (cap := 0) (by decide) (by decide) (by decide) (by decide)
    obtain ⟨b46, g46⟩ : ∃ z, z = h41.size := ⟨_, rfl⟩
    rw [← g46] at A46 st46
    have Sn_b46 : Safe Z own_EL sS.vm h41 b46 := Safe.new (Nat.le_of_eq g46.symm)
    have f47 := (f42.ext E41)
    have g_b46 : n0 ≤ b46 := Nat.le_trans (own_osz f47) (Nat.le_of_eq g46.symm)
    have sz_b46 : h0.size ≤ b46 := Nat.le_trans K45.1 (Nat.le_of_eq g46.symm)
    have CH48 : CHr Z own_EL sS.vm h0 sS.vm h46 := CH43.trans (CHr.ext E46 CH43.1)
    have hk49 := Nat.le_trans hk44 E46.1
    have K50 : Keep h0 h46 [] := K45.ext E46
    have V46 : Arv Z h46 b46 k46 .char (0 : Int32) [] (.int (0 : Int32)) := Arv.new A46 (by decide)
    have f51 := (A41.ext E46)
    have f52 := (F_b41_value.ext E46)
    have f53 := (F_b41_coder.ext E46)
    have f54 := (Safe.ext E46 CH43.1 (Safe.ext E41 CH33.1 Sn_b41))
    have f55 := (f47.ext E46)
    obtain ⟨_, _, ⟨T56, L56, k56, n56⟩, -, X56, hS256, hg256, ⟨Lc56, hQ56, l56, y56, z56, CHl56⟩, st56⟩ := X46.specialBackS hx (y := (⟨"java/lang/String", "<init>", "([C)V"⟩ : MethodName)) rfl hown0 (mvT hZ0 (w_8 hw)) (mvT hZ0 (w_9 hw)) (mvT hZ0 (w_10 hw)) (by decide) (own_backOfSH (s := sS) (vm0 := sS.vm) (rm := ({ frames := 2, cells := 4, slots := 8, locals := 29 } : Room)) (W := 1) (rm_se1 l Z a0 hw [] b41 b46 .null (.int (0 : Int32)) k46 h46 n0 f55 f51 f52 f53 g_b41 V46) hZ0 (w_10 hw) (w_7 hw) (by decide) (by decide) hEL CH48.1 (own_sfS (Nat.lt_of_lt_of_le (A41).lt E46.1) f54 own_sf0)) (g := (mkF mM 70 Ls40 [(.ref b46), (.ref b41), (.ref b41)])) rfl (by rw [hml]; rfl) (Steps.refl _) (a := b41) (argsL := [(.ref b46)]) (rest := [(.ref b41)]) (lenOf pd_17 rfl) rfl (by show 2 * 0 + _ ≤ _; exact Nat.le_of_eq rfl) (hb hby at_70) (fun _ _ => ⟨rfl, e46, (by decide : 3 + 4 ≤ _), (by decide : 8 + 8 ≤ _)⟩)
    dsimp only [Pt.U, Pt.locs, Pt.cells, Pt.slots] at X56 l56 y56 z56 st56 hQ56 hS256 hg256 CHl56
    subst l56 y56 z56
    have hS56 := foldS hS0 (by rw [e46]; exact hk49) hS256 hg256
    have hZ56 : Z.Warmed39 (sS.setVm T56.vm).vm := State.Warmed39.trans (t := sS.setVm sS.vm) hZ0 hS256.1
    have hown56 : (sS.setVm T56.vm).vm.findClass "com/example/ullr/ullr/files/ListedFileNamePinLaw" = some mM.cls := by rw [show (sS.setVm T56.vm).vm = T56.vm from rfl, hS256.1.alike.findClass]; exact hown0
    have hk56 : T56.heap.size ≤ T56.heap.size := Nat.le_refl _
    replace X56 : Stand pP l eE room_1 (sS.setVm T56.vm) mM _ below meth cC T56 _ _ _ := X56
    obtain ⟨t_56, k_56, rfl, Nq56, Kq56, q56_0⟩ := hQ56
    have N56 := Fr.app N32 Nq56
    have CH57 : CHr Z own_EL sS.vm h0 T56.vm T56.heap := CH48.trans (CHl56)
    skip
    have K59 : Keep h0 T56.heap [] := K50.trans Kq56 (allS (Or.inr sz_b41) all0)
    let Ls60 : Array Slot := #[.val (.int p0), .val (.int p1), .val (.int p2), .val (.int p3), .val (.int p4), .val (.long p5), .second, .val (.int (0 : Int32)), .val (.int x0), .val (.int x1), .val (.int x2), .val (.int x3), .val (.ref b10), .val (.ref b41), .unset, .unset, .unset]
    obtain ⟨T61, h61, X61, e61, E61, A61, D61, -, st61⟩ := newO X56 hx hZ56 hown56 (w_26 hw) (w_27 hw) (w_28 hw) rfl (g := (mkF mM 203 Ls60 [])) rfl (hb hby at_203) (by decide) (by decide)
    obtain ⟨b61, g61⟩ : ∃ z, z = T56.heap.size := ⟨_, rfl⟩
    rw [← g61] at A61 D61 st61
    have Sn_b61 : Safe Z own_EL T56.vm T56.heap b61 := Safe.new (Nat.le_of_eq g61.symm)
    have f62 := (f55.keep Kq56 (allS g_b41 all0))
    have g_b61 : n0 ≤ b61 := Nat.le_trans (own_osz f62) (Nat.le_of_eq g61.symm)
    have sz_b61 : h0.size ≤ b61 := Nat.le_trans K59.1 (Nat.le_of_eq g61.symm)
    have CH63 : CHr Z own_EL sS.vm h0 T56.vm h61 := CH57.trans (CHr.ext E61 CH57.1)
    have hk64 := Nat.le_trans hk56 E61.1
    have K65 : Keep h0 h61 [] := K59.ext E61
    have F_b61__path : Fld Z h61 b61 "com/example/ullr/ullr/files/ListedFile" "_path" "Ljava/lang/String;" .null := D61 (Or.inr (w_40 hw)) (ty := (.object "java/lang/String")) (by decide)
    have F_b61__bytes : Fld Z h61 b61 "com/example/ullr/ullr/files/ListedFile" "_bytes" "J" (.long (0 : Int64)) := D61 (Or.inr (w_42 hw)) (ty := .long) (by decide)
    have f66 := ((q56_0).1.ext E61)
    have f67 := (f62.ext E61)
    obtain ⟨_, _, ⟨T68, L68, k68, n68⟩, -, X68, hS268, hg268, ⟨Lc68, hQ68, l68, y68, z68, CHl68⟩, st68⟩ := X61.specialBackS hx (y := (⟨"com/example/ullr/ullr/files/ListedFile", "<init>", "(Ljava/lang/String;J)V"⟩ : MethodName)) rfl hown56 (mvT hZ56 (w_29 hw)) (mvT hZ56 (w_30 hw)) (mvT hZ56 (w_31 hw)) (by decide) (own_backOfSH (s := sS) (vm0 := T56.vm) (rm := ({ frames := 1, cells := 2, slots := 20, locals := 14 } : Room)) (W := 1) (rm_fini l Z a0 hw [] b61 b41 p5 .null (.long (0 : Int64)) h61 n0 f67 A61 F_b61__path F_b61__bytes g_b61 f66) hZ56 (w_31 hw) (w_28 hw) (by decide) (by decide) hEL CH63.1 own_sf0) (g := (mkF mM 211 Ls60 [(.long p5), (.ref b41), (.ref b61), (.ref b61)])) rfl (by rw [hml]; rfl) (Steps.refl _) (a := b61) (argsL := [(.ref b41), (.long p5)]) (rest := [(.ref b61)]) (lenOf pd_18 rfl) rfl (by show 2 * 0 + _ ≤ _; exact Nat.le_of_eq rfl) (hb hby at_211) (fun _ _ => ⟨rfl, e61, (by decide : 8 + 2 ≤ _), (by decide : 18 + 20 ≤ _)⟩)
    dsimp only [Pt.U, Pt.locs, Pt.cells, Pt.slots] at X68 l68 y68 z68 st68 hQ68 hS268 hg268 CHl68
    subst l68 y68 z68
    have hS68 := foldS hS56 (by rw [e61]; exact hk64) hS268 hg268
    have hZ68 : Z.Warmed39 (sS.setVm T68.vm).vm := State.Warmed39.trans (t := sS.setVm T56.vm) hZ56 hS268.1
    have hown68 : (sS.setVm T68.vm).vm.findClass "com/example/ullr/ullr/files/ListedFileNamePinLaw" = some mM.cls := by rw [show (sS.setVm T68.vm).vm = T68.vm from rfl, hS268.1.alike.findClass]; exact hown56
    have hk68 : T68.heap.size ≤ T68.heap.size := Nat.le_refl _
    replace X68 : Stand pP l eE room_1 (sS.setVm T68.vm) mM _ below meth cC T68 _ _ _ := X68
    obtain ⟨rfl, Nq68, Kq68, q68_0, q68_1⟩ := hQ68
    have N68 := Fr.app N56 Nq68
    have CH69 : CHr Z own_EL sS.vm h0 T68.vm T68.heap := CH63.trans (CHl68)
    skip
    have K71 : Keep h0 T68.heap [] := K65.trans Kq68 (allS (Or.inr sz_b61) all0)
    let Ls72 : Array Slot := #[.val (.int p0), .val (.int p1), .val (.int p2), .val (.int p3), .val (.int p4), .val (.long p5), .second, .val (.int (0 : Int32)), .val (.int x0), .val (.int x1), .val (.int x2), .val (.int x3), .val (.ref b10), .val (.ref b41), .val (.ref b61), .unset, .unset]
    have f73 := (f66.keep Kq68)
    have f74 := (((q56_0).2.1.ext E61).keep Kq68 (ninS (Nat.ne_of_lt (Nat.lt_of_lt_of_le ((q56_0).1).lt (Nat.le_of_eq g61.symm))) nin0))
    have f75 := (((q56_0).2.2.1.ext E61).keep Kq68 (ninS (Nat.ne_of_lt (Nat.lt_of_lt_of_le ((q56_0).1).lt (Nat.le_of_eq g61.symm))) nin0))
    have f76 := (((q56_0).2.2.2.1.ext E61).keep Kq68 (ninS (Nat.ne_of_lt (Nat.lt_of_lt_of_le ((q56_0).2.2.2.1).lt (Nat.le_of_eq g61.symm))) nin0))
    have f77 := (f67.keep Kq68 (allS g_b61 all0))
    obtain ⟨cq78, kq78, q78a, q78b, q78c⟩ := isOf hZ68 rfl q68_0
    obtain ⟨_, _, ⟨T78, L78, k78, n78⟩, -, X78, hS278, hg278, ⟨Lc78, hQ78, l78, y78, z78, CHl78⟩, st78⟩ := X68.virtualBackS hx (y := (⟨"com/example/ullr/ullr/files/ListedFile", "name", "()Ljava/lang/String;"⟩ : MethodName)) (z := (⟨"com/example/ullr/ullr/files/ListedFile", "name", "()Ljava/lang/String;"⟩ : MethodName)) hown68 (mvT hZ68 (w_43 hw)) (mvT hZ68 (w_44 hw)) (notFace_of_selects (args := #[]) (mvT hZ68 (w_46 hw))) (mvT hZ68 (w_46 hw)) (mvT hZ68 (w_45 hw)) (by decide) (own_backOfSH (s := sS) (vm0 := T68.vm) (rm := ({ frames := 6, cells := 2, slots := 12, locals := 93 } : Room)) (W := 0) (rm_name l Z a0 hw [] b61 b41 t_56 k_56 [] zc fm T68.heap n0 f77 q68_1 (⟨f73, f74, f75, f76, (q56_0).2.2.2.2⟩ : own_Str Z T68.heap b41 t_56 k_56 []) (Nat.le_of_ble_eq_true rfl : [].length ≤ 8) S_COMPACT_STRINGS hp1 S_SIOOBE_FORMATTER hp3) hZ68 (w_47 hw) (w_28 hw) (by decide) (by decide) hEL CH69.1 own_sf0) q78a q78c (g := (mkF mM 218 Ls72 [(.ref b61)])) rfl (by rw [hml]; rfl) (Steps.refl _) (argsL := []) (rest := []) (lenOf pd_19 rfl) rfl (by show 2 * 0 + _ ≤ _; exact Nat.le_of_eq rfl) (hb hby at_218) (fun _ _ => ⟨rfl, rfl, (by decide : 10 + 2 ≤ _), (by decide : 38 + 12 ≤ _)⟩)
    dsimp only [Pt.U, Pt.locs, Pt.cells, Pt.slots] at X78 l78 y78 z78 st78 hQ78 hS278 hg278 CHl78
    subst l78 y78 z78
    have hS78 := foldS hS68 (hk68) hS278 hg278
    have hZ78 : Z.Warmed39 (sS.setVm T78.vm).vm := State.Warmed39.trans (t := sS.setVm T68.vm) hZ68 hS278.1
    have hown78 : (sS.setVm T78.vm).vm.findClass "com/example/ullr/ullr/files/ListedFileNamePinLaw" = some mM.cls := by rw [show (sS.setVm T78.vm).vm = T78.vm from rfl, hS278.1.alike.findClass]; exact hown68
    have hk78 : T78.heap.size ≤ T78.heap.size := Nat.le_refl _
    replace X78 : Stand pP l eE room_1 (sS.setVm T78.vm) mM _ below meth cC T78 _ _ _ := X78
    obtain ⟨r_78, t2_78, k2_78, rfl, Nq78, Kq78, q78_0⟩ := hQ78
    have N78 := Fr.app N68 Nq78
    have CH79 : CHr Z own_EL sS.vm h0 T78.vm T78.heap := CH69.trans (CHl78)
    skip
    have K81 : Keep h0 T78.heap [] := K71.trans Kq78 all0
    let Ls82 : Array Slot := #[.val (.int p0), .val (.int p1), .val (.int p2), .val (.int p3), .val (.int p4), .val (.long p5), .second, .val (.int (0 : Int32)), .val (.int x0), .val (.int x1), .val (.int x2), .val (.int x3), .val (.ref b10), .val (.ref b41), .val (.ref b61), .val (.ref r_78), .unset]
    let Ls83 : Array Slot := #[.val (.int p0), .val (.int p1), .val (.int p2), .val (.int p3), .val (.int p4), .val (.long p5), .second, .val (.int (0 : Int32)), .val (.int x0), .val (.int x1), .val (.int x2), .val (.int x3), .val (.ref b10), .val (.ref b41), .val (.ref b61), .val (.ref r_78), .val (.int (-1 : Int32))]
    have f84 := (f77.keep Kq78 all0)
    obtain ⟨cq85, kq85, q85a, q85b, q85c⟩ := isOf hZ78 rfl (q78_0).1
    obtain ⟨_, _, ⟨T85, L85, k85, n85⟩, -, X85, ⟨Lc85, hQ85, l85, y85, z85⟩, st85⟩ := X78.virtualBack hx (y := (⟨"java/lang/String", "length", "()I"⟩ : MethodName)) (z := (⟨"java/lang/String", "length", "()I"⟩ : MethodName)) hown78 (mvT hZ78 (w_103 hw)) (mvT hZ78 (w_54 hw)) (notFace_of_selects (args := #[]) (mvT hZ78 (w_56 hw))) (mvT hZ78 (w_56 hw)) (mvT hZ78 (w_55 hw)) (by decide) (own_len (W := 0) hZ78 hw (⟨(q78_0).1, (q78_0).2.1, (q78_0).2.2.1, (q78_0).2.2.2.1, (q78_0).2.2.2.2⟩ : own_Str Z T78.heap r_78 t2_78 k2_78 ([].drop (own_ln [] (47 : Int32) [].length))) (Sta.ext (f84).2 S_COMPACT_STRINGS) hp1 (by decide) (by decide)) q85a q85c (g := (mkF mM 298 Ls83 [(.ref r_78)])) rfl (by rw [hml]; rfl) (Steps.refl _) (argsL := []) (rest := []) (lenOf pd_5 rfl) rfl (by show 2 * 0 + _ ≤ _; exact Nat.le_of_eq rfl) (hb hby at_298) (fun _ _ => ⟨rfl, rfl, (by decide : 12 + 0 ≤ _), (by decide : 50 + 0 ≤ _)⟩)
    dsimp only [Pt.U, Pt.locs, Pt.cells, Pt.slots] at X85 l85 y85 z85 st85 hQ85
    subst l85 y85 z85
    obtain ⟨rfl, rfl, Kq85⟩ := hQ85
    try rw [List.append_nil] at X85
    have f86 := ((((((V32.ext E41).ext E46).keep Kq56 (ninS (Nat.ne_of_lt (Nat.lt_of_lt_of_le (Nat.lt_of_lt_of_le (Nat.lt_of_lt_of_le (Nat.lt_of_lt_of_le (Nat.lt_of_lt_of_le (V10).lt (Nat.le_of_eq W14.size.symm)) (Nat.le_of_eq W20.size.symm)) (Nat.le_of_eq W26.size.symm)) (Nat.le_of_eq W32.size.symm)) (Nat.le_of_eq g41.symm))) nin0)).ext E61).keep Kq68 (ninS (Nat.ne_of_lt (Nat.lt_of_lt_of_le (Nat.lt_of_lt_of_le (Nat.lt_of_lt_of_le (Nat.lt_of_lt_of_le (Nat.lt_of_lt_of_le (Nat.lt_of_lt_of_le (Nat.lt_of_lt_of_le (Nat.lt_of_lt_of_le (V10).lt (Nat.le_of_eq W14.size.symm)) (Nat.le_of_eq W20.size.symm)) (Nat.le_of_eq W26.size.symm)) (Nat.le_of_eq W32.size.symm)) E41.1) E46.1) Kq56.1) (Nat.le_of_eq g61.symm))) nin0)).keep Kq78 nin0)
    obtain ⟨_, _, ⟨T87, L87, k87, n87⟩, -, X87, ⟨Lc87, hQ87, l87, y87, z87⟩, st87⟩ := Jvm.LawKit.callS X85 hx (y := (⟨"com/example/ullr/ullr/files/ListedFileNamePinLaw", "at", "(Ljava/lang/String;[CIII)Z"⟩ : MethodName)) hown78 (mvT hZ78 (w_104 hw)) (mvT hZ78 (w_105 hw)) (mvT hZ78 (w_2 hw)) (mvT hZ78 (w_106 hw)) (by decide) (backOf (W := 0) (rm_att l Z a0 hw [] r_78 t2_78 k2_78 [] (own_ln ([] : List Int32) (47 : Int32) ([] : List Int32).length) b10 k10 ([x0, x1, x2, x3]) (-1 : Int32) 0 zc fm T78.heap n0 f84 (⟨(q78_0).1, (q78_0).2.1, (q78_0).2.2.1, (q78_0).2.2.2.1, (q78_0).2.2.2.2⟩ : own_Str Z T78.heap r_78 t2_78 k2_78 ([].drop (own_ln [] (47 : Int32) [].length))) f86 (own_lxp ([] : List Int32) (47 : Int32) 0 : (-1 : Int32) = own_pr (own_ln ([] : List Int32) (47 : Int32) ([] : List Int32).length)) (⟨own_ln_le _ _ _, Nat.le_of_ble_eq_true rfl, rfl⟩ : (own_ln ([] : List Int32) (47 : Int32) ([] : List Int32).length) ≤ [].length ∧ [].length ≤ 8 ∧ [x0, x1, x2, x3].length = 4) (by decide : 0 < 4) (fun q => absurd q (Nat.not_lt_of_ge (Nat.le_of_ble_eq_true rfl)) : 0 < [].length → [x0, x1, x2, x3].getD 0 0 = [].getD 0 0) S_COMPACT_STRINGS hp1 S_SIOOBE_FORMATTER hp3) hZ78 (w_106 hw) (w_2 hw) (by decide) (by decide)) (g := (mkF mM 322 Ls83 [(.int (0 : Int32)), (.int (0 : Int32)), (.int (-1 : Int32)), (.ref b10), (.ref r_78)])) rfl (by rw [hml]; rfl) (argsL := [(.ref r_78), (.ref b10), (.int (-1 : Int32)), (.int (0 : Int32)), (.int (0 : Int32))]) (rest := []) (lenOf pd_20 rfl) rfl (by show 2 * 0 + _ ≤ _; exact Nat.le_of_eq rfl) (hb hby at_322) (fun _ _ => ⟨rfl, Kq85, (by decide : 12 + 0 ≤ _), (by decide : 50 + 0 ≤ _)⟩)
    dsimp only [Pt.U, Pt.locs, Pt.cells, Pt.slots] at X87 l87 y87 z87 st87 hQ87
    subst l87 y87 z87
    obtain ⟨rfl, rfl, Kq87⟩ := hQ87
    try rw [List.append_nil] at X87
    obtain ⟨_, _, ⟨T88, L88, k88, n88⟩, -, X88, ⟨Lc88, hQ88, l88, y88, z88⟩, st88⟩ := Jvm.LawKit.callS X87 hx (y := (⟨"com/example/ullr/ullr/files/ListedFileNamePinLaw", "at", "(Ljava/lang/String;[CIII)Z"⟩ : MethodName)) hown78 (mvT hZ78 (w_104 hw)) (mvT hZ78 (w_105 hw)) (mvT hZ78 (w_2 hw)) (mvT hZ78 (w_106 hw)) (by decide) (backOf (W := 0) (rm_att l Z a0 hw [] r_78 t2_78 k2_78 [] (own_ln ([] : List Int32) (47 : Int32) ([] : List Int32).length) b10 k10 ([x0, x1, x2, x3]) (-1 : Int32) 1 zc fm T78.heap n0 f84 (⟨(q78_0).1, (q78_0).2.1, (q78_0).2.2.1, (q78_0).2.2.2.1, (q78_0).2.2.2.2⟩ : own_Str Z T78.heap r_78 t2_78 k2_78 ([].drop (own_ln [] (47 : Int32) [].length))) f86 (own_lxp ([] : List Int32) (47 : Int32) 0 : (-1 : Int32) = own_pr (own_ln ([] : List Int32) (47 : Int32) ([] : List Int32).length)) (⟨own_ln_le _ _ _, Nat.le_of_ble_eq_true rfl, rfl⟩ : (own_ln ([] : List Int32) (47 : Int32) ([] : List Int32).length) ≤ [].length ∧ [].length ≤ 8 ∧ [x0, x1, x2, x3].length = 4) (by decide : 1 < 4) (fun q => absurd q (Nat.not_lt_of_ge (Nat.le_of_ble_eq_true rfl)) : 1 < [].length → [x0, x1, x2, x3].getD 1 0 = [].getD 1 0) S_COMPACT_STRINGS hp1 S_SIOOBE_FORMATTER hp3) hZ78 (w_106 hw) (w_2 hw) (by decide) (by decide)) (g := (mkF mM 337 Ls83 [(.int (1 : Int32)), (.int (0 : Int32)), (.int (-1 : Int32)), (.ref b10), (.ref r_78)])) rfl (by rw [hml]; rfl) (argsL := [(.ref r_78), (.ref b10), (.int (-1 : Int32)), (.int (0 : Int32)), (.int (1 : Int32))]) (rest := []) (lenOf pd_20 rfl) rfl (by show 2 * 0 + _ ≤ _; exact Nat.le_of_eq rfl) (hb hby at_337) (fun _ _ => ⟨rfl, Kq87, (by decide : 12 + 0 ≤ _), (by decide : 50 + 0 ≤ _)⟩)
    dsimp only [Pt.U, Pt.locs, Pt.cells, Pt.slots] at X88 l88 y88 z88 st88 hQ88
    subst l88 y88 z88
    obtain ⟨rfl, rfl, Kq88⟩ := hQ88
    try rw [List.append_nil] at X88
    obtain ⟨_, _, ⟨T89, L89, k89, n89⟩, -, X89, ⟨Lc89, hQ89, l89, y89, z89⟩, st89⟩ := Jvm.LawKit.callS X88 hx (y := (⟨"com/example/ullr/ullr/files/ListedFileNamePinLaw", "at", "(Ljava/lang/String;[CIII)Z"⟩ : MethodName)) hown78 (mvT hZ78 (w_104 hw)) (mvT hZ78 (w_105 hw)) (mvT hZ78 (w_2 hw)) (mvT hZ78 (w_106 hw)) (by decide) (backOf (W := 0) (rm_att l Z a0 hw [] r_78 t2_78 k2_78 [] (own_ln ([] : List Int32) (47 : Int32) ([] : List Int32).length) b10 k10 ([x0, x1, x2, x3]) (-1 : Int32) 2 zc fm T78.heap n0 f84 (⟨(q78_0).1, (q78_0).2.1, (q78_0).2.2.1, (q78_0).2.2.2.1, (q78_0).2.2.2.2⟩ : own_Str Z T78.heap r_78 t2_78 k2_78 ([].drop (own_ln [] (47 : Int32) [].length))) f86 (own_lxp ([] : List Int32) (47 : Int32) 0 : (-1 : Int32) = own_pr (own_ln ([] : List Int32) (47 : Int32) ([] : List Int32).length)) (⟨own_ln_le _ _ _, Nat.le_of_ble_eq_true rfl, rfl⟩ : (own_ln ([] : List Int32) (47 : Int32) ([] : List Int32).length) ≤ [].length ∧ [].length ≤ 8 ∧ [x0, x1, x2, x3].length = 4) (by decide : 2 < 4) (fun q => absurd q (Nat.not_lt_of_ge (Nat.le_of_ble_eq_true rfl)) : 2 < [].length → [x0, x1, x2, x3].getD 2 0 = [].getD 2 0) S_COMPACT_STRINGS hp1 S_SIOOBE_FORMATTER hp3) hZ78 (w_106 hw) (w_2 hw) (by decide) (by decide)) (g := (mkF mM 352 Ls83 [(.int (2 : Int32)), (.int (0 : Int32)), (.int (-1 : Int32)), (.ref b10), (.ref r_78)])) rfl (by rw [hml]; rfl) (argsL := [(.ref r_78), (.ref b10), (.int (-1 : Int32)), (.int (0 : Int32)), (.int (2 : Int32))]) (rest := []) (lenOf pd_20 rfl) rfl (by show 2 * 0 + _ ≤ _; exact Nat.le_of_eq rfl) (hb hby at_352) (fun _ _ => ⟨rfl, Kq88, (by decide : 12 + 0 ≤ _), (by decide : 50 + 0 ≤ _)⟩)
    dsimp only [Pt.U, Pt.locs, Pt.cells, Pt.slots] at X89 l89 y89 z89 st89 hQ89
    subst l89 y89 z89
    obtain ⟨rfl, rfl, Kq89⟩ := hQ89
    try rw [List.append_nil] at X89
    obtain ⟨_, _, ⟨T90, L90, k90, n90⟩, -, X90, ⟨Lc90, hQ90, l90, y90, z90⟩, st90⟩ := Jvm.LawKit.callS X89 hx (y := (⟨"com/example/ullr/ullr/files/ListedFileNamePinLaw", "at", "(Ljava/lang/String;[CIII)Z"⟩ : MethodName)) hown78 (mvT hZ78 (w_104 hw)) (mvT hZ78 (w_105 hw)) (mvT hZ78 (w_2 hw)) (mvT hZ78 (w_106 hw)) (by decide) (backOf (W := 0) (rm_att l Z a0 hw [] r_78 t2_78 k2_78 [] (own_ln ([] : List Int32) (47 : Int32) ([] : List Int32).length) b10 k10 ([x0, x1, x2, x3]) (-1 : Int32) 3 zc fm T78.heap n0 f84 (⟨(q78_0).1, (q78_0).2.1, (q78_0).2.2.1, (q78_0).2.2.2.1, (q78_0).2.2.2.2⟩ : own_Str Z T78.heap r_78 t2_78 k2_78 ([].drop (own_ln [] (47 : Int32) [].length))) f86 (own_lxp ([] : List Int32) (47 : Int32) 0 : (-1 : Int32) = own_pr (own_ln ([] : List Int32) (47 : Int32) ([] : List Int32).length)) (⟨own_ln_le _ _ _, Nat.le_of_ble_eq_true rfl, rfl⟩ : (own_ln ([] : List Int32) (47 : Int32) ([] : List Int32).length) ≤ [].length ∧ [].length ≤ 8 ∧ [x0, x1, x2, x3].length = 4) (by decide : 3 < 4) (fun q => absurd q (Nat.not_lt_of_ge (Nat.le_of_ble_eq_true rfl)) : 3 < [].length → [x0, x1, x2, x3].getD 3 0 = [].getD 3 0) S_COMPACT_STRINGS hp1 S_SIOOBE_FORMATTER hp3) hZ78 (w_106 hw) (w_2 hw) (by decide) (by decide)) (g := (mkF mM 367 Ls83 [(.int (3 : Int32)), (.int (0 : Int32)), (.int (-1 : Int32)), (.ref b10), (.ref r_78)])) rfl (by rw [hml]; rfl) (argsL := [(.ref r_78), (.ref b10), (.int (-1 : Int32)), (.int (0 : Int32)), (.int (3 : Int32))]) (rest := []) (lenOf pd_20 rfl) rfl (by show 2 * 0 + _ ≤ _; exact Nat.le_of_eq rfl) (hb hby at_367) (fun _ _ => ⟨rfl, Kq89, (by decide : 12 + 0 ≤ _), (by decide : 50 + 0 ≤ _)⟩)
    dsimp only [Pt.U, Pt.locs, Pt.cells, Pt.slots] at X90 l90 y90 z90 st90 hQ90
    subst l90 y90 z90
    obtain ⟨rfl, rfl, Kq90⟩ := hQ90
    try rw [List.append_nil] at X90
    obtain ⟨fs, hr, hrun, hended, hR1, hR2, hR3, hR4⟩ := Stand.leaveW (s := sS) (vm₁ := T78.vm) X90 hS78 (by rw [Kq90]; exact hk78) (v := some (.int (1 : Int32))) (fun h => by rw [Bd.returns] at h; cases h)
    refine ⟨_, _, pre39 _ ?_, hrun, hended, _, _, rfl, ?_, ?_, hR1, hR2, hR3, hR4.mono (by decide) (by decide)⟩
    · refine XS.iload X32.here hx rfl (hb hby at_58) rfl ?_
      show Steps pP.tables eE below (T32.setTop (mkF mM 60 Ls40 [(.int (0 : Int32))])) _
      refine XS.ifNo X32.here hx rfl (hb hby at_60) rfl ((if0 _ _).trans (teq (by decide : (0 : Int32) = (0 : Int32))).2) ?_
      show Steps pP.tables eE below (T32.setTop (mkF mM 63 Ls40 [])) _
      refine st41 _ ?_
      show Steps pP.tables eE below (T41.setTop (mkF mM 66 Ls40 [(.ref b41)])) _
      refine XS.dup X41.here hx rfl (hb hby at_66) rfl rfl ?_
      show Steps pP.tables eE below (T41.setTop (mkF mM 67 Ls40 [(.ref b41), (.ref b41)])) _
      refine XS.iconst X41.here hx rfl (hb hby at_67) ?_
      show Steps pP.tables eE below (T41.setTop (mkF mM 68 Ls40 [(.int (0 : Int32)), (.ref b41), (.ref b41)])) _
      refine st46 _ ?_
      show Steps pP.tables eE below (T46.setTop (mkF mM 70 Ls40 [(.ref b46), (.ref b41), (.ref b41)])) _
      refine st56.trans ?_
      show Steps pP.tables eE below (T56.setTop (mkF mM 73 Ls40 [(.ref b41)])) _
      refine XS.astore X56.here hx rfl (hb hby at_73) rfl rfl (l' := Ls60) rfl ?_
      show Steps pP.tables eE below (T56.setTop (mkF mM 75 Ls60 [])) _
      refine XS.goto X56.here hx rfl (pc0 := 75) (pc' := 203) rfl (hb hby at_75) (by decide) (by decide) ?_
      show Steps pP.tables eE below (T56.setTop (mkF mM 203 Ls60 [])) _
      refine st61 _ ?_
      show Steps pP.tables eE below (T61.setTop (mkF mM 206 Ls60 [(.ref b61)])) _
      refine XS.dup X61.here hx rfl (hb hby at_206) rfl rfl ?_
      show Steps pP.tables eE below (T61.setTop (mkF mM 207 Ls60 [(.ref b61), (.ref b61)])) _
      refine XS.aload X61.here hx rfl (hb hby at_207) rfl rfl ?_
      show Steps pP.tables eE below (T61.setTop (mkF mM 209 Ls60 [(.ref b41), (.ref b61), (.ref b61)])) _
      refine XS.lload X61.here hx rfl (hb hby at_209) rfl ?_
      show Steps pP.tables eE below (T61.setTop (mkF mM 211 Ls60 [(.long p5), (.ref b41), (.ref b61), (.ref b61)])) _
      refine st68.trans ?_
      show Steps pP.tables eE below (T68.setTop (mkF mM 214 Ls60 [(.ref b61)])) _
      refine XS.astore X68.here hx rfl (hb hby at_214) rfl rfl (l' := Ls72) rfl ?_
      show Steps pP.tables eE below (T68.setTop (mkF mM 216 Ls72 [])) _
      refine XS.aload X68.here hx rfl (hb hby at_216) rfl rfl ?_
      show Steps pP.tables eE below (T68.setTop (mkF mM 218 Ls72 [(.ref b61)])) _
      refine st78.trans ?_
      show Steps pP.tables eE below (T78.setTop (mkF mM 221 Ls72 [(.ref r_78)])) _
      refine XS.astore X78.here hx rfl (hb hby at_221) rfl rfl (l' := Ls82) rfl ?_
      show Steps pP.tables eE below (T78.setTop (mkF mM 223 Ls82 [])) _
      refine XS.iconst X78.here hx rfl (hb hby at_223) ?_
      show Steps pP.tables eE below (T78.setTop (mkF mM 224 Ls82 [(.int (-1 : Int32))])) _
      refine XS.istore X78.here hx rfl (hb hby at_224) rfl (l' := Ls83) rfl ?_
      show Steps pP.tables eE below (T78.setTop (mkF mM 226 Ls83 [])) _
      refine XS.iload X78.here hx rfl (hb hby at_226) rfl ?_
      show Steps pP.tables eE below (T78.setTop (mkF mM 228 Ls83 [(.int (0 : Int32))])) _
      refine XS.ifYes X78.here hx rfl (pc0 := 228) (pc' := 241) rfl (hb hby at_228) rfl ((if0 _ _).trans (flt (by decide : ¬ ((0 : Int32) < (0 : Int32)))).2.2.2) (by decide) (by decide) ?_
      show Steps pP.tables eE below (T78.setTop (mkF mM 241 Ls83 [])) _
      refine XS.iload X78.here hx rfl (hb hby at_241) rfl ?_
      show Steps pP.tables eE below (T78.setTop (mkF mM 243 Ls83 [(.int (0 : Int32))])) _
      refine XS.iconst X78.here hx rfl (hb hby at_243) ?_
      show Steps pP.tables eE below (T78.setTop (mkF mM 244 Ls83 [(.int (1 : Int32)), (.int (0 : Int32))])) _
      refine XS.icmpYes X78.here hx rfl (pc0 := 244) (pc' := 257) rfl (hb hby at_244) rfl (flt (by decide : ¬ ((1 : Int32) < (0 : Int32)))).2.2.2 (by decide) (by decide) ?_
      show Steps pP.tables eE below (T78.setTop (mkF mM 257 Ls83 [])) _
      refine XS.iload X78.here hx rfl (hb hby at_257) rfl ?_
      show Steps pP.tables eE below (T78.setTop (mkF mM 259 Ls83 [(.int (0 : Int32))])) _
      refine XS.iconst X78.here hx rfl (hb hby at_259) ?_
      show Steps pP.tables eE below (T78.setTop (mkF mM 260 Ls83 [(.int (2 : Int32)), (.int (0 : Int32))])) _
      refine XS.icmpYes X78.here hx rfl (pc0 := 260) (pc' := 273) rfl (hb hby at_260) rfl (flt (by decide : ¬ ((2 : Int32) < (0 : Int32)))).2.2.2 (by decide) (by decide) ?_
      show Steps pP.tables eE below (T78.setTop (mkF mM 273 Ls83 [])) _
      refine XS.iload X78.here hx rfl (hb hby at_273) rfl ?_
      show Steps pP.tables eE below (T78.setTop (mkF mM 275 Ls83 [(.int (0 : Int32))])) _
      refine XS.iconst X78.here hx rfl (hb hby at_275) ?_
      show Steps pP.tables eE below (T78.setTop (mkF mM 276 Ls83 [(.int (3 : Int32)), (.int (0 : Int32))])) _
      refine XS.icmpYes X78.here hx rfl (pc0 := 276) (pc' := 289) rfl (hb hby at_276) rfl (flt (by decide : ¬ ((3 : Int32) < (0 : Int32)))).2.2.2 (by decide) (by decide) ?_
      show Steps pP.tables eE below (T78.setTop (mkF mM 289 Ls83 [])) _
      refine XS.aload X78.here hx rfl (hb hby at_289) rfl rfl ?_
      show Steps pP.tables eE below (T78.setTop (mkF mM 291 Ls83 [(.ref r_78)])) _
      refine XS.ifnonnullYes X78.here hx rfl (pc0 := 291) (pc' := 296) rfl (hb hby at_291) rfl (by decide) (by decide) ?_
      show Steps pP.tables eE below (T78.setTop (mkF mM 296 Ls83 [])) _
      refine XS.aload X78.here hx rfl (hb hby at_296) rfl rfl ?_
      show Steps pP.tables eE below (T78.setTop (mkF mM 298 Ls83 [(.ref r_78)])) _
      refine st85.trans ?_
      show Steps pP.tables eE below (T85.setTop (mkF mM 301 Ls83 [(.int (Int32.ofNat (([].drop (own_ln [] (47 : Int32) [].length))).length))])) _
      refine XS.iload X85.here hx rfl (hb hby at_301) rfl ?_
      show Steps pP.tables eE below (T85.setTop (mkF mM 303 Ls83 [(.int (0 : Int32)), (.int (Int32.ofNat (([].drop (own_ln [] (47 : Int32) [].length))).length))])) _
      refine XS.iload X85.here hx rfl (hb hby at_303) rfl ?_
      show Steps pP.tables eE below (T85.setTop (mkF mM 305 Ls83 [(.int (-1 : Int32)), (.int (0 : Int32)), (.int (Int32.ofNat (([].drop (own_ln [] (47 : Int32) [].length))).length))])) _
      refine XS.isub X85.here hx rfl (hb hby at_305) rfl ?_
      show Steps pP.tables eE below (T85.setTop (mkF mM 306 Ls83 [(.int (1 : Int32)), (.int (Int32.ofNat (([].drop (own_ln [] (47 : Int32) [].length))).length))])) _
      refine XS.iconst X85.here hx rfl (hb hby at_306) ?_
      show Steps pP.tables eE below (T85.setTop (mkF mM 307 Ls83 [(.int (1 : Int32)), (.int (1 : Int32)), (.int (Int32.ofNat (([].drop (own_ln [] (47 : Int32) [].length))).length))])) _
      refine XS.isub X85.here hx rfl (hb hby at_307) rfl ?_
      show Steps pP.tables eE below (T85.setTop (mkF mM 308 Ls83 [(.int (0 : Int32)), (.int (Int32.ofNat (([].drop (own_ln [] (47 : Int32) [].length))).length))])) _
      refine XS.icmpYes X85.here hx rfl (pc0 := 308) (pc' := 313) rfl (hb hby at_308) rfl (teq (own_lenk ([] : List Int32) (47 : Int32) (Nat.le_of_ble_eq_true rfl))).1 (by decide) (by decide) ?_
      show Steps pP.tables eE below (T85.setTop (mkF mM 313 Ls83 [])) _
      refine XS.aload X85.here hx rfl (hb hby at_313) rfl rfl ?_
      show Steps pP.tables eE below (T85.setTop (mkF mM 315 Ls83 [(.ref r_78)])) _
      refine XS.aload X85.here hx rfl (hb hby at_315) rfl rfl ?_
      show Steps pP.tables eE below (T85.setTop (mkF mM 317 Ls83 [(.ref b10), (.ref r_78)])) _
      refine XS.iload X85.here hx rfl (hb hby at_317) rfl ?_
      show Steps pP.tables eE below (T85.setTop (mkF mM 319 Ls83 [(.int (-1 : Int32)), (.ref b10), (.ref r_78)])) _
      refine XS.iload X85.here hx rfl (hb hby at_319) rfl ?_
      show Steps pP.tables eE below (T85.setTop (mkF mM 321 Ls83 [(.int (0 : Int32)), (.int (-1 : Int32)), (.ref b10), (.ref r_78)])) _
      refine XS.iconst X85.here hx rfl (hb hby at_321) ?_
      show Steps pP.tables eE below (T85.setTop (mkF mM 322 Ls83 [(.int (0 : Int32)), (.int (0 : Int32)), (.int (-1 : Int32)), (.ref b10), (.ref r_78)])) _
      refine st87 _ ?_
      show Steps pP.tables eE below (T87.setTop (mkF mM 325 Ls83 [(.int (1 : Int32))])) _
      refine XS.ifNo X87.here hx rfl (hb hby at_325) rfl ((if0 _ _).trans (feq (by decide : ¬ ((1 : Int32) = (0 : Int32)))).1) ?_
      show Steps pP.tables eE below (T87.setTop (mkF mM 328 Ls83 [])) _
      refine XS.aload X87.here hx rfl (hb hby at_328) rfl rfl ?_
      show Steps pP.tables eE below (T87.setTop (mkF mM 330 Ls83 [(.ref r_78)])) _
      refine XS.aload X87.here hx rfl (hb hby at_330) rfl rfl ?_
      show Steps pP.tables eE below (T87.setTop (mkF mM 332 Ls83 [(.ref b10), (.ref r_78)])) _
      refine XS.iload X87.here hx rfl (hb hby at_332) rfl ?_
      show Steps pP.tables eE below (T87.setTop (mkF mM 334 Ls83 [(.int (-1 : Int32)), (.ref b10), (.ref r_78)])) _
      refine XS.iload X87.here hx rfl (hb hby at_334) rfl ?_
      show Steps pP.tables eE below (T87.setTop (mkF mM 336 Ls83 [(.int (0 : Int32)), (.int (-1 : Int32)), (.ref b10), (.ref r_78)])) _
      refine XS.iconst X87.here hx rfl (hb hby at_336) ?_
      show Steps pP.tables eE below (T87.setTop (mkF mM 337 Ls83 [(.int (1 : Int32)), (.int (0 : Int32)), (.int (-1 : Int32)), (.ref b10), (.ref r_78)])) _
      refine st88 _ ?_
      show Steps pP.tables eE below (T88.setTop (mkF mM 340 Ls83 [(.int (1 : Int32))])) _
      refine XS.ifNo X88.here hx rfl (hb hby at_340) rfl ((if0 _ _).trans (feq (by decide : ¬ ((1 : Int32) = (0 : Int32)))).1) ?_
      show Steps pP.tables eE below (T88.setTop (mkF mM 343 Ls83 [])) _
      refine XS.aload X88.here hx rfl (hb hby at_343) rfl rfl ?_
      show Steps pP.tables eE below (T88.setTop (mkF mM 345 Ls83 [(.ref r_78)])) _
      refine XS.aload X88.here hx rfl (hb hby at_345) rfl rfl ?_
      show Steps pP.tables eE below (T88.setTop (mkF mM 347 Ls83 [(.ref b10), (.ref r_78)])) _
      refine XS.iload X88.here hx rfl (hb hby at_347) rfl ?_
      show Steps pP.tables eE below (T88.setTop (mkF mM 349 Ls83 [(.int (-1 : Int32)), (.ref b10), (.ref r_78)])) _
      refine XS.iload X88.here hx rfl (hb hby at_349) rfl ?_
      show Steps pP.tables eE below (T88.setTop (mkF mM 351 Ls83 [(.int (0 : Int32)), (.int (-1 : Int32)), (.ref b10), (.ref r_78)])) _
      refine XS.iconst X88.here hx rfl (hb hby at_351) ?_
      show Steps pP.tables eE below (T88.setTop (mkF mM 352 Ls83 [(.int (2 : Int32)), (.int (0 : Int32)), (.int (-1 : Int32)), (.ref b10), (.ref r_78)])) _
      refine st89 _ ?_
      show Steps pP.tables eE below (T89.setTop (mkF mM 355 Ls83 [(.int (1 : Int32))])) _
      refine XS.ifNo X89.here hx rfl (hb hby at_355) rfl ((if0 _ _).trans (feq (by decide : ¬ ((1 : Int32) = (0 : Int32)))).1) ?_
      show Steps pP.tables eE below (T89.setTop (mkF mM 358 Ls83 [])) _
      refine XS.aload X89.here hx rfl (hb hby at_358) rfl rfl ?_
      show Steps pP.tables eE below (T89.setTop (mkF mM 360 Ls83 [(.ref r_78)])) _
      refine XS.aload X89.here hx rfl (hb hby at_360) rfl rfl ?_
      show Steps pP.tables eE below (T89.setTop (mkF mM 362 Ls83 [(.ref b10), (.ref r_78)])) _
      refine XS.iload X89.here hx rfl (hb hby at_362) rfl ?_
      show Steps pP.tables eE below (T89.setTop (mkF mM 364 Ls83 [(.int (-1 : Int32)), (.ref b10), (.ref r_78)])) _
      refine XS.iload X89.here hx rfl (hb hby at_364) rfl ?_
      show Steps pP.tables eE below (T89.setTop (mkF mM 366 Ls83 [(.int (0 : Int32)), (.int (-1 : Int32)), (.ref b10), (.ref r_78)])) _
      refine XS.iconst X89.here hx rfl (hb hby at_366) ?_
      show Steps pP.tables eE below (T89.setTop (mkF mM 367 Ls83 [(.int (3 : Int32)), (.int (0 : Int32)), (.int (-1 : Int32)), (.ref b10), (.ref r_78)])) _
      refine st90 _ ?_
      show Steps pP.tables eE below (T90.setTop (mkF mM 370 Ls83 [(.int (1 : Int32))])) _
      refine XS.ifNo X90.here hx rfl (hb hby at_370) rfl ((if0 _ _).trans (feq (by decide : ¬ ((1 : Int32) = (0 : Int32)))).1) ?_
      show Steps pP.tables eE below (T90.setTop (mkF mM 373 Ls83 [])) _
      refine XS.iconst X90.here hx rfl (hb hby at_373) ?_
      show Steps pP.tables eE below (T90.setTop (mkF mM 374 Ls83 [(.int (1 : Int32))])) _
      refine XS.goto X90.here hx rfl (pc0 := 374) (pc' := 378) rfl (hb hby at_374) (by decide) (by decide) ?_
      show Steps pP.tables eE below (T90.setTop (mkF mM 378 Ls83 [(.int (1 : Int32))])) _
      exact retN X90 hx (t := .boolean) Bd.returns (by simp) (hb hby at_378) hr
    · show Q_law Z p0 p1 p2 p3 p4 p5 zc fm h0 n0 _ T90.heap _
      rw [Kq90]
      exact ⟨rfl, N78, K81⟩
    · show CHr Z own_EL sS.vm sS.heap T90.vm T90.heap
      rw [hh, Kq90]
      exact CH79.trans (CHv.at X90 hZ78 hEL CH79.1)
  · let Ls92 : Array Slot := #[.val (.int p0), .val (.int p1), .val (.int p2), .val (.int p3), .val (.int p4), .val (.long p5), .second, .val (.int (1 : Int32)), .val (.int x0), .val (.int x1), .val (.int x2), .val (.int x3), .val (.ref b10), .unset, .unset, .unset, .unset]
    have hcs : ∀ c ∈ ([x0] : List Int32), ¬ c < 0 ∧ ¬ (255 : Int32) < c := by
      intro c hc
      simp only [List.mem_cons, List.not_mem_nil, or_false] at hc
      rcases hc with rfl
      all_goals first | exact hxb0
    obtain ⟨T93, h93, X93, e93, E93, A93, D93, -, st93⟩ := newO X32 hx hZ0 hown0 (w_5 hw) (w_6 hw) (w_7 hw) e32 (g := (mkF mM 84 Ls92 [])) rfl (hb hby at_84) (by decide) (by decide)
    obtain ⟨b93, g93⟩ : ∃ z, z = h32.size := ⟨_, rfl⟩
    rw [← g93] at A93 D93 st93
    have Sn_b93 : Safe Z own_EL sS.vm h32 b93 := Safe.new (Nat.le_of_eq g93.symm)
    have f94 := (((((O0.ext E10).wr W14 g_b10).wr W20 g_b10).wr W26 g_b10).wr W32 g_b10)
    have g_b93 : n0 ≤ b93 := Nat.le_trans (own_osz f94) (Nat.le_of_eq g93.symm)
    have sz_b93 : h0.size ≤ b93 := Nat.le_trans K37.1 (Nat.le_of_eq g93.symm)
    have CH95 : CHr Z own_EL sS.vm h0 sS.vm h93 := CH33.trans (CHr.ext E93 CH33.1)
    have hk96 := Nat.le_trans hk36 E93.1
    have K97 : Keep h0 h93 [] := K37.ext E93
    have F_b93_value : Fld Z h93 b93 "java/lang/String" "value" "[B" .null := D93 (Or.inr (w_20 hw)) (ty := (.array .byte)) (by decide)
    have F_b93_coder : Fld Z h93 b93 "java/lang/String" "coder" "B" (.int (0 : Int32)) := D93 (Or.inr (w_21 hw)) (ty := .byte) (by decide)
    obtain ⟨T98, h98, k98, X98, e98, E98, A98, st98⟩ := newP X93 hx hZ0 (aty := .char) (w_4 hw) e93 (g := (mkF mM 89 Ls92 [(.int (1 : Int32)), (.ref b93), (.ref b93)])) rfl (hb hby at_89) rfl (by decide) (cap := 1) (by decide) (by decide) (by decide) (by decide)
    obtain ⟨b98, g98⟩ : ∃ z, z = h93.size := ⟨_, rfl⟩
    rw [← g98] at A98 st98
    have Sn_b98 : Safe Z own_EL sS.vm h93 b98 := Safe.new (Nat.le_of_eq g98.symm)
    have f99 := (f94.ext E93)
    have g_b98 : n0 ≤ b98 := Nat.le_trans (own_osz f99) (Nat.le_of_eq g98.symm)
    have sz_b98 : h0.size ≤ b98 := Nat.le_trans K97.1 (Nat.le_of_eq g98.symm)
    have CH100 : CHr Z own_EL sS.vm h0 sS.vm h98 := CH95.trans (CHr.ext E98 CH95.1)
    have hk101 := Nat.le_trans hk96 E98.1
    have K102 : Keep h0 h98 [] := K97.ext E98
    have V98 : Arv Z h98 b98 k98 .char (1 : Int32) [(.int (0 : Int32))] (.int (0 : Int32)) := (Arv.new A98 (by decide)).pad (pad_rep [] (.int (0 : Int32)) 1)
    obtain ⟨cl103, Ar103, qk103, S103, Nn103, Hh103, G103⟩ := id V98
    have hin103 : ¬ ((0 : Int32) < 0 ∨ cl103.slots.size ≤ ((0 : Int32)).toNatClampNeg) := inb_of S103 ⟨by decide, by decide⟩
    obtain ⟨T103, h103, X103, e103, W103, st103⟩ := stC X98 hx hZ0 e98 Ar103 (j := (0 : Int32)) hin103 (g := (mkF mM 95 Ls92 [(.int x0), (.int (0 : Int32)), (.ref b98), (.ref b98), (.ref b93), (.ref b93)])) rfl rfl (hb hby at_95)
    rw [own_nc hxb0] at W103
    have f106 := (Safe.ext E98 CH95.1 Sn_b98)
    have sfp105 := f106
    have CH104 : CHr Z own_EL sS.vm h0 sS.vm h103 := CH100.trans (CHr.wr W103 sfp105 CH100.1)
    have hk107 := Nat.le_trans hk101 (Nat.le_of_eq W103.size.symm)
    have K108 : Keep h0 h103 [] := K102.wr W103 (Or.inr sz_b98)
    have V103 : Arv Z h103 b98 k98 .char (1 : Int32) [(.int x0)] (.int (0 : Int32)) := Arv.set Ar103 qk103 S103 Nn103 Hh103 G103 (own_nc hxb0 ▸ fits_nar_char _) W103 0 rfl (Nat.le_of_ble_eq_true rfl)
    have N103 := Fr.snoc X103 N32 g_b98
    have f109 := ((f99.ext E98).wr W103 g_b98)
    have f110 := ((A93.ext E98).wr W103)
    have f111 := ((F_b93_value.ext E98).other W103 (Or.inl (Nat.ne_of_lt (Nat.lt_of_lt_of_le (A93).lt (Nat.le_of_eq g98.symm)))))
    have f112 := ((F_b93_coder.ext E98).other W103 (Or.inl (Nat.ne_of_lt (Nat.lt_of_lt_of_le (A93).lt (Nat.le_of_eq g98.symm)))))
    obtain ⟨_, _, ⟨T113, L113, k113, n113⟩, -, X113, ⟨Lc113, hQ113, l113, y113, z113⟩, st113⟩ := X103.specialBack hx (y := (⟨"java/lang/String", "<init>", "([C)V"⟩ : MethodName)) rfl hown0 (mvT hZ0 (w_8 hw)) (mvT hZ0 (w_9 hw)) (mvT hZ0 (w_10 hw)) (by decide) (own_new (W := 1) hZ0 hw (cs := [x0]) (n := 1) g_b93 (own_osz f109) f110 f111 f112 V103 (Sta.ext (f109).2 S_COMPACT_STRINGS) hp1 rfl rfl (by decide) (by decide) hcs (by decide) (by decide)) (g := (mkF mM 96 Ls92 [(.ref b98), (.ref b93), (.ref b93)])) rfl (by rw [hml]; rfl) (Steps.refl _) (a := b93) (argsL := [(.ref b98)]) (rest := [(.ref b93)]) (lenOf pd_17 rfl) rfl (by show 2 * 0 + _ ≤ _; exact Nat.le_of_eq rfl) (hb hby at_96) (fun _ _ => ⟨rfl, e103, (by decide : 3 + 1 ≤ _), (by decide : 9 + 1 ≤ _)⟩)
    dsimp only [Pt.U, Pt.locs, Pt.cells, Pt.slots] at X113 l113 y113 z113 st113 hQ113
    subst l113 y113 z113
    obtain ⟨rfl, Nq113, Kq113, t113, kb113, hs113, Sq113⟩ := hQ113
    have N113 := Fr.app N103 Nq113
    have g_t113 : n0 ≤ t113 := Nat.le_trans (own_osz f109) hs113
    have sz_t113 : h0.size ≤ t113 := Nat.le_trans K108.1 hs113
    have f115 := (Safe.wr W103 sfp105 CH100.1 (Safe.ext E98 CH95.1 (Safe.ext E93 CH33.1 Sn_b93)))
    have sfp116 := (sfS f115 sf0)
    have CH114 : CHr Z own_EL sS.vm h0 sS.vm T113.heap := CH104.trans (CHr.keep Kq113 sfp116 CH104.1)
    have hk117 := Nat.le_trans hk107 Kq113.1
    have K118 : Keep h0 T113.heap [] := K108.trans Kq113 (allS (Or.inr sz_b93) all0)
    let Ls119 : Array Slot := #[.val (.int p0), .val (.int p1), .val (.int p2), .val (.int p3), .val (.int p4), .val (.long p5), .second, .val (.int (1 : Int32)), .val (.int x0), .val (.int x1), .val (.int x2), .val (.int x3), .val (.ref b10), .val (.ref b93), .unset, .unset, .unset]
    obtain ⟨T120, h120, X120, e120, E120, A120, D120, -, st120⟩ := newO X113 hx hZ0 hown0 (w_26 hw) (w_27 hw) (w_28 hw) rfl (g := (mkF mM 203 Ls119 [])) rfl (hb hby at_203) (by decide) (by decide)
    obtain ⟨b120, g120⟩ : ∃ z, z = T113.heap.size := ⟨_, rfl⟩
    rw [← g120] at A120 D120 st120
    have Sn_b120 : Safe Z own_EL sS.vm T113.heap b120 := Safe.new (Nat.le_of_eq g120.symm)
    have f121 := (f109.keep Kq113 (allS g_b93 all0))
    have g_b120 : n0 ≤ b120 := Nat.le_trans (own_osz f121) (Nat.le_of_eq g120.symm)
    have sz_b120 : h0.size ≤ b120 := Nat.le_trans K118.1 (Nat.le_of_eq g120.symm)
    have CH122 : CHr Z own_EL sS.vm h0 sS.vm h120 := CH114.trans (CHr.ext E120 CH114.1)
    have hk123 := Nat.le_trans hk117 E120.1
    have K124 : Keep h0 h120 [] := K118.ext E120
    have F_b120__path : Fld Z h120 b120 "com/example/ullr/ullr/files/ListedFile" "_path" "Ljava/lang/String;" .null := D120 (Or.inr (w_40 hw)) (ty := (.object "java/lang/String")) (by decide)
    have F_b120__bytes : Fld Z h120 b120 "com/example/ullr/ullr/files/ListedFile" "_bytes" "J" (.long (0 : Int64)) := D120 (Or.inr (w_42 hw)) (ty := .long) (by decide)
    have f125 := ((Sq113).1.ext E120)
    have f126 := (f121.ext E120)
    obtain ⟨_, _, ⟨T127, L127, k127, n127⟩, -, X127, hS2127, hg2127, ⟨Lc127, hQ127, l127, y127, z127, CHl127⟩, st127⟩ := X120.specialBackS hx (y := (⟨"com/example/ullr/ullr/files/ListedFile", "<init>", "(Ljava/lang/String;J)V"⟩ : MethodName)) rfl hown0 (mvT hZ0 (w_29 hw)) (mvT hZ0 (w_30 hw)) (mvT hZ0 (w_31 hw)) (by decide) (own_backOfSH (s := sS) (vm0 := sS.vm) (rm := ({ frames := 1, cells := 2, slots := 20, locals := 14 } : Room)) (W := 1) (rm_fini l Z a0 hw [] b120 b93 p5 .null (.long (0 : Int64)) h120 n0 f126 A120 F_b120__path F_b120__bytes g_b120 f125) hZ0 (w_31 hw) (w_28 hw) (by decide) (by decide) hEL CH122.1 own_sf0) (g := (mkF mM 211 Ls119 [(.long p5), (.ref b93), (.ref b120), (.ref b120)])) rfl (by rw [hml]; rfl) (Steps.refl _) (a := b120) (argsL := [(.ref b93), (.long p5)]) (rest := [(.ref b120)]) (lenOf pd_18 rfl) rfl (by show 2 * 0 + _ ≤ _; exact Nat.le_of_eq rfl) (hb hby at_211) (fun _ _ => ⟨rfl, e120, (by decide : 5 + 2 ≤ _), (by decide : 12 + 20 ≤ _)⟩)
    dsimp only [Pt.U, Pt.locs, Pt.cells, Pt.slots] at X127 l127 y127 z127 st127 hQ127 hS2127 hg2127 CHl127
    subst l127 y127 z127
    have hS127 := foldS hS0 (by rw [e120]; exact hk123) hS2127 hg2127
    have hZ127 : Z.Warmed39 (sS.setVm T127.vm).vm := State.Warmed39.trans (t := sS.setVm sS.vm) hZ0 hS2127.1
    have hown127 : (sS.setVm T127.vm).vm.findClass "com/example/ullr/ullr/files/ListedFileNamePinLaw" = some mM.cls := by rw [show (sS.setVm T127.vm).vm = T127.vm from rfl, hS2127.1.alike.findClass]; exact hown0
    have hk127 : T127.heap.size ≤ T127.heap.size := Nat.le_refl _
    replace X127 : Stand pP l eE room_1 (sS.setVm T127.vm) mM _ below meth cC T127 _ _ _ := X127
    obtain ⟨rfl, Nq127, Kq127, q127_0, q127_1⟩ := hQ127
    have N127 := Fr.app N113 Nq127
    have CH128 : CHr Z own_EL sS.vm h0 T127.vm T127.heap := CH122.trans (CHl127)
    skip
    have K130 : Keep h0 T127.heap [] := K124.trans Kq127 (allS (Or.inr sz_b120) all0)
    let Ls131 : Array Slot := #[.val (.int p0), .val (.int p1), .val (.int p2), .val (.int p3), .val (.int p4), .val (.long p5), .second, .val (.int (1 : Int32)), .val (.int x0), .val (.int x1), .val (.int x2), .val (.int x3), .val (.ref b10), .val (.ref b93), .val (.ref b120), .unset, .unset]
    have f132 := (f125.keep Kq127)
    have f133 := (((Sq113).2.1.ext E120).keep Kq127 (ninS (Nat.ne_of_lt (Nat.lt_of_lt_of_le ((Sq113).1).lt (Nat.le_of_eq g120.symm))) nin0))
    have f134 := (((Sq113).2.2.1.ext E120).keep Kq127 (ninS (Nat.ne_of_lt (Nat.lt_of_lt_of_le ((Sq113).1).lt (Nat.le_of_eq g120.symm))) nin0))
    have f135 := (((Sq113).2.2.2.1.ext E120).keep Kq127 (ninS (Nat.ne_of_lt (Nat.lt_of_lt_of_le ((Sq113).2.2.2.1).lt (Nat.le_of_eq g120.symm))) nin0))
    have f136 := (f126.keep Kq127 (allS g_b120 all0))
    obtain ⟨cq137, kq137, q137a, q137b, q137c⟩ := isOf hZ127 rfl q127_0
    obtain ⟨_, _, ⟨T137, L137, k137, n137⟩, -, X137, hS2137, hg2137, ⟨Lc137, hQ137, l137, y137, z137, CHl137⟩, st137⟩ := X127.virtualBackS hx (y := (⟨"com/example/ullr/ullr/files/ListedFile", "name", "()Ljava/lang/String;"⟩ : MethodName)) (z := (⟨"com/example/ullr/ullr/files/ListedFile", "name", "()Ljava/lang/String;"⟩ : MethodName)) hown127 (mvT hZ127 (w_43 hw)) (mvT hZ127 (w_44 hw)) (notFace_of_selects (args := #[]) (mvT hZ127 (w_46 hw))) (mvT hZ127 (w_46 hw)) (mvT hZ127 (w_45 hw)) (by decide) (own_backOfSH (s := sS) (vm0 := T127.vm) (rm := ({ frames := 6, cells := 2, slots := 12, locals := 93 } : Room)) (W := 0) (rm_name l Z a0 hw [] b120 b93 t113 kb113 [x0] zc fm T127.heap n0 f136 q127_1 (⟨f132, f133, f134, f135, (Sq113).2.2.2.2⟩ : own_Str Z T127.heap b93 t113 kb113 [x0]) (Nat.le_of_ble_eq_true rfl : [x0].length ≤ 8) S_COMPACT_STRINGS hp1 S_SIOOBE_FORMATTER hp3) hZ127 (w_47 hw) (w_28 hw) (by decide) (by decide) hEL CH128.1 own_sf0) q137a q137c (g := (mkF mM 218 Ls131 [(.ref b120)])) rfl (by rw [hml]; rfl) (Steps.refl _) (argsL := []) (rest := []) (lenOf pd_19 rfl) rfl (by show 2 * 0 + _ ≤ _; exact Nat.le_of_eq rfl) (hb hby at_218) (fun _ _ => ⟨rfl, rfl, (by decide : 7 + 2 ≤ _), (by decide : 32 + 12 ≤ _)⟩)
    dsimp only [Pt.U, Pt.locs, Pt.cells, Pt.slots] at X137 l137 y137 z137 st137 hQ137 hS2137 hg2137 CHl137
    subst l137 y137 z137
    have hS137 := foldS hS127 (hk127) hS2137 hg2137
    have hZ137 : Z.Warmed39 (sS.setVm T137.vm).vm := State.Warmed39.trans (t := sS.setVm T127.vm) hZ127 hS2137.1
    have hown137 : (sS.setVm T137.vm).vm.findClass "com/example/ullr/ullr/files/ListedFileNamePinLaw" = some mM.cls := by rw [show (sS.setVm T137.vm).vm = T137.vm from rfl, hS2137.1.alike.findClass]; exact hown127
    have hk137 : T137.heap.size ≤ T137.heap.size := Nat.le_refl _
    replace X137 : Stand pP l eE room_1 (sS.setVm T137.vm) mM _ below meth cC T137 _ _ _ := X137
    obtain ⟨r_137, t2_137, k2_137, rfl, Nq137, Kq137, q137_0⟩ := hQ137
    have N137 := Fr.app N127 Nq137
    have CH138 : CHr Z own_EL sS.vm h0 T137.vm T137.heap := CH128.trans (CHl137)
    skip
    have K140 : Keep h0 T137.heap [] := K130.trans Kq137 all0
    let Ls141 : Array Slot := #[.val (.int p0), .val (.int p1), .val (.int p2), .val (.int p3), .val (.int p4), .val (.long p5), .second, .val (.int (1 : Int32)), .val (.int x0), .val (.int x1), .val (.int x2), .val (.int x3), .val (.ref b10), .val (.ref b93), .val (.ref b120), .val (.ref r_137), .unset]
    let Ls142 : Array Slot := #[.val (.int p0), .val (.int p1), .val (.int p2), .val (.int p3), .val (.int p4), .val (.long p5), .second, .val (.int (1 : Int32)), .val (.int x0), .val (.int x1), .val (.int x2), .val (.int x3), .val (.ref b10), .val (.ref b93), .val (.ref b120), .val (.ref r_137), .val (.int (-1 : Int32))]
    obtain ⟨T143, X143, e143, st143⟩ := own_to X137 (h := T137.heap) (g := (mkF mM 226 Ls142 [])) (g' := (mkF mM 241 #[.val (.int p0), .val (.int p1), .val (.int p2), .val (.int p3), .val (.int p4), .val (.long p5), .second, .val (.int (1 : Int32)), .val (.int x0), .val (.int x1), .val (.int x2), .val (.int x3), .val (.ref b10), .val (.ref b93), .val (.ref b120), .val (.ref r_137), .val (.int (own_lx ([x0] : List Int32) (47 : Int32) (0 + 1)))] [])) (by
      have pre145 : ∀ tg, Steps pP.tables eE below (T137.setTop (mkF mM 235 Ls142 [(.int (47 : Int32)), (.int x0)])) tg → Steps pP.tables eE below (T137.setTop (mkF mM 226 Ls142 [])) tg := fun tg kg => (by
        refine XS.iload X137.here hx rfl (hb hby at_226) rfl ?_
        show Steps pP.tables eE below (T137.setTop (mkF mM 228 Ls142 [(.int (1 : Int32))])) _
        refine XS.ifNo X137.here hx rfl (hb hby at_228) rfl ((if0 _ _).trans (tlt (by decide : (0 : Int32) < (1 : Int32))).2.2.2) ?_
        show Steps pP.tables eE below (T137.setTop (mkF mM 231 Ls142 [])) _
        refine XS.iload X137.here hx rfl (hb hby at_231) rfl ?_
        show Steps pP.tables eE below (T137.setTop (mkF mM 233 Ls142 [(.int x0)])) _
        refine XS.bipush X137.here hx rfl (hb hby at_233) ?_
        exact kg)
      by_cases hc144 : x0 = (47 : Int32)
      · let Ls146 : Array Slot := #[.val (.int p0), .val (.int p1), .val (.int p2), .val (.int p3), .val (.int p4), .val (.long p5), .second, .val (.int (1 : Int32)), .val (.int x0), .val (.int x1), .val (.int x2), .val (.int x3), .val (.ref b10), .val (.ref b93), .val (.ref b120), .val (.ref r_137), .val (.int (0 : Int32))]
        refine ⟨T137, X137, rfl, fun tg kg => ?_⟩
        rw [(own_lxS ([x0] : List Int32) (47 : Int32) 0).trans (if_pos hc144)] at kg
        refine pre145 tg ?_
        refine XS.icmpNo X137.here hx rfl (hb hby at_235) rfl (teq hc144).2 ?_
        show Steps pP.tables eE below (T137.setTop (mkF mM 238 Ls142 [])) _
        refine XS.iconst X137.here hx rfl (hb hby at_238) ?_
        show Steps pP.tables eE below (T137.setTop (mkF mM 239 Ls142 [(.int (0 : Int32))])) _
        refine XS.istore X137.here hx rfl (hb hby at_239) rfl (l' := Ls146) rfl ?_
        exact kg
      · refine ⟨T137, X137, rfl, fun tg kg => ?_⟩
        rw [(own_lxS ([x0] : List Int32) (47 : Int32) 0).trans (if_neg hc144)] at kg
        refine pre145 tg ?_
        refine XS.icmpYes X137.here hx rfl (pc0 := 235) (pc' := 241) rfl (hb hby at_235) rfl (feq hc144).2 (by decide) (by decide) ?_
        exact kg)
    let Ls147 : Array Slot := #[.val (.int p0), .val (.int p1), .val (.int p2), .val (.int p3), .val (.int p4), .val (.long p5), .second, .val (.int (1 : Int32)), .val (.int x0), .val (.int x1), .val (.int x2), .val (.int x3), .val (.ref b10), .val (.ref b93), .val (.ref b120), .val (.ref r_137), .val (.int (own_lx ([x0] : List Int32) (47 : Int32) (0 + 1)))]
    have f148 := (f136.keep Kq137 all0)
    obtain ⟨cq149, kq149, q149a, q149b, q149c⟩ := isOf hZ137 e143 (q137_0).1
    obtain ⟨_, _, ⟨T149, L149, k149, n149⟩, -, X149, ⟨Lc149, hQ149, l149, y149, z149⟩, st149⟩ := X143.virtualBack hx (y := (⟨"java/lang/String", "length", "()I"⟩ : MethodName)) (z := (⟨"java/lang/String", "length", "()I"⟩ : MethodName)) hown137 (mvT hZ137 (w_103 hw)) (mvT hZ137 (w_54 hw)) (notFace_of_selects (args := #[]) (mvT hZ137 (w_56 hw))) (mvT hZ137 (w_56 hw)) (mvT hZ137 (w_55 hw)) (by decide) (own_len (W := 0) hZ137 hw (⟨(q137_0).1, (q137_0).2.1, (q137_0).2.2.1, (q137_0).2.2.2.1, (q137_0).2.2.2.2⟩ : own_Str Z T137.heap r_137 t2_137 k2_137 ([x0].drop (own_ln [x0] (47 : Int32) [x0].length))) (Sta.ext (f148).2 S_COMPACT_STRINGS) hp1 (by decide) (by decide)) q149a q149c (g := (mkF mM 298 Ls147 [(.ref r_137)])) rfl (by rw [hml]; rfl) (Steps.refl _) (argsL := []) (rest := []) (lenOf pd_5 rfl) rfl (by show 2 * 0 + _ ≤ _; exact Nat.le_of_eq rfl) (hb hby at_298) (fun _ _ => ⟨rfl, e143, (by decide : 9 + 0 ≤ _), (by decide : 44 + 0 ≤ _)⟩)
    dsimp only [Pt.U, Pt.locs, Pt.cells, Pt.slots] at X149 l149 y149 z149 st149 hQ149
    subst l149 y149 z149
    obtain ⟨rfl, rfl, Kq149⟩ := hQ149
    try rw [List.append_nil] at X149
    have f150 := (((((((V32.ext E93).ext E98).other W103 (Nat.ne_of_lt (Nat.lt_of_lt_of_le (Nat.lt_of_lt_of_le (Nat.lt_of_lt_of_le (Nat.lt_of_lt_of_le (Nat.lt_of_lt_of_le (Nat.lt_of_lt_of_le (V10).lt (Nat.le_of_eq W14.size.symm)) (Nat.le_of_eq W20.size.symm)) (Nat.le_of_eq W26.size.symm)) (Nat.le_of_eq W32.size.symm)) E93.1) (Nat.le_of_eq g98.symm)))).keep Kq113 (ninS (Nat.ne_of_lt (Nat.lt_of_lt_of_le (Nat.lt_of_lt_of_le (Nat.lt_of_lt_of_le (Nat.lt_of_lt_of_le (Nat.lt_of_lt_of_le (V10).lt (Nat.le_of_eq W14.size.symm)) (Nat.le_of_eq W20.size.symm)) (Nat.le_of_eq W26.size.symm)) (Nat.le_of_eq W32.size.symm)) (Nat.le_of_eq g93.symm))) nin0)).ext E120).keep Kq127 (ninS (Nat.ne_of_lt (Nat.lt_of_lt_of_le (Nat.lt_of_lt_of_le (Nat.lt_of_lt_of_le (Nat.lt_of_lt_of_le (Nat.lt_of_lt_of_le (Nat.lt_of_lt_of_le (Nat.lt_of_lt_of_le (Nat.lt_of_lt_of_le (Nat.lt_of_lt_of_le (V10).lt (Nat.le_of_eq W14.size.symm)) (Nat.le_of_eq W20.size.symm)) (Nat.le_of_eq W26.size.symm)) (Nat.le_of_eq W32.size.symm)) E93.1) E98.1) (Nat.le_of_eq W103.size.symm)) Kq113.1) (Nat.le_of_eq g120.symm))) nin0)).keep Kq137 nin0)
    obtain ⟨_, _, ⟨T151, L151, k151, n151⟩, -, X151, ⟨Lc151, hQ151, l151, y151, z151⟩, st151⟩ := Jvm.LawKit.callS X149 hx (y := (⟨"com/example/ullr/ullr/files/ListedFileNamePinLaw", "at", "(Ljava/lang/String;[CIII)Z"⟩ : MethodName)) hown137 (mvT hZ137 (w_104 hw)) (mvT hZ137 (w_105 hw)) (mvT hZ137 (w_2 hw)) (mvT hZ137 (w_106 hw)) (by decide) (backOf (W := 0) (rm_att l Z a0 hw [] r_137 t2_137 k2_137 [x0] (own_ln ([x0] : List Int32) (47 : Int32) ([x0] : List Int32).length) b10 k10 ([x0, x1, x2, x3]) (own_lx ([x0] : List Int32) (47 : Int32) (0 + 1)) 0 zc fm T137.heap n0 f148 (⟨(q137_0).1, (q137_0).2.1, (q137_0).2.2.1, (q137_0).2.2.2.1, (q137_0).2.2.2.2⟩ : own_Str Z T137.heap r_137 t2_137 k2_137 ([x0].drop (own_ln [x0] (47 : Int32) [x0].length))) f150 (own_lxp ([x0] : List Int32) (47 : Int32) 1 : (own_lx ([x0] : List Int32) (47 : Int32) (0 + 1)) = own_pr (own_ln ([x0] : List Int32) (47 : Int32) ([x0] : List Int32).length)) (⟨own_ln_le _ _ _, Nat.le_of_ble_eq_true rfl, rfl⟩ : (own_ln ([x0] : List Int32) (47 : Int32) ([x0] : List Int32).length) ≤ [x0].length ∧ [x0].length ≤ 8 ∧ [x0, x1, x2, x3].length = 4) (by decide : 0 < 4) (fun _ => rfl : 0 < [x0].length → [x0, x1, x2, x3].getD 0 0 = [x0].getD 0 0) S_COMPACT_STRINGS hp1 S_SIOOBE_FORMATTER hp3) hZ137 (w_106 hw) (w_2 hw) (by decide) (by decide)) (g := (mkF mM 322 Ls147 [(.int (0 : Int32)), (.int (1 : Int32)), (.int (own_lx ([x0] : List Int32) (47 : Int32) (0 + 1))), (.ref b10), (.ref r_137)])) rfl (by rw [hml]; rfl) (argsL := [(.ref r_137), (.ref b10), (.int (own_lx ([x0] : List Int32) (47 : Int32) (0 + 1))), (.int (1 : Int32)), (.int (0 : Int32))]) (rest := []) (lenOf pd_20 rfl) rfl (by show 2 * 0 + _ ≤ _; exact Nat.le_of_eq rfl) (hb hby at_322) (fun _ _ => ⟨rfl, Kq149, (by decide : 9 + 0 ≤ _), (by decide : 44 + 0 ≤ _)⟩)
    dsimp only [Pt.U, Pt.locs, Pt.cells, Pt.slots] at X151 l151 y151 z151 st151 hQ151
    subst l151 y151 z151
    obtain ⟨rfl, rfl, Kq151⟩ := hQ151
    try rw [List.append_nil] at X151
    obtain ⟨_, _, ⟨T152, L152, k152, n152⟩, -, X152, ⟨Lc152, hQ152, l152, y152, z152⟩, st152⟩ := Jvm.LawKit.callS X151 hx (y := (⟨"com/example/ullr/ullr/files/ListedFileNamePinLaw", "at", "(Ljava/lang/String;[CIII)Z"⟩ : MethodName)) hown137 (mvT hZ137 (w_104 hw)) (mvT hZ137 (w_105 hw)) (mvT hZ137 (w_2 hw)) (mvT hZ137 (w_106 hw)) (by decide) (backOf (W := 0) (rm_att l Z a0 hw [] r_137 t2_137 k2_137 [x0] (own_ln ([x0] : List Int32) (47 : Int32) ([x0] : List Int32).length) b10 k10 ([x0, x1, x2, x3]) (own_lx ([x0] : List Int32) (47 : Int32) (0 + 1)) 1 zc fm T137.heap n0 f148 (⟨(q137_0).1, (q137_0).2.1, (q137_0).2.2.1, (q137_0).2.2.2.1, (q137_0).2.2.2.2⟩ : own_Str Z T137.heap r_137 t2_137 k2_137 ([x0].drop (own_ln [x0] (47 : Int32) [x0].length))) f150 (own_lxp ([x0] : List Int32) (47 : Int32) 1 : (own_lx ([x0] : List Int32) (47 : Int32) (0 + 1)) = own_pr (own_ln ([x0] : List Int32) (47 : Int32) ([x0] : List Int32).length)) (⟨own_ln_le _ _ _, Nat.le_of_ble_eq_true rfl, rfl⟩ : (own_ln ([x0] : List Int32) (47 : Int32) ([x0] : List Int32).length) ≤ [x0].length ∧ [x0].length ≤ 8 ∧ [x0, x1, x2, x3].length = 4) (by decide : 1 < 4) (fun q => absurd q (Nat.not_lt_of_ge (Nat.le_of_ble_eq_true rfl)) : 1 < [x0].length → [x0, x1, x2, x3].getD 1 0 = [x0].getD 1 0) S_COMPACT_STRINGS hp1 S_SIOOBE_FORMATTER hp3) hZ137 (w_106 hw) (w_2 hw) (by decide) (by decide)) (g := (mkF mM 337 Ls147 [(.int (1 : Int32)), (.int (1 : Int32)), (.int (own_lx ([x0] : List Int32) (47 : Int32) (0 + 1))), (.ref b10), (.ref r_137)])) rfl (by rw [hml]; rfl) (argsL := [(.ref r_137), (.ref b10), (.int (own_lx ([x0] : List Int32) (47 : Int32) (0 + 1))), (.int (1 : Int32)), (.int (1 : Int32))]) (rest := []) (lenOf pd_20 rfl) rfl (by show 2 * 0 + _ ≤ _; exact Nat.le_of_eq rfl) (hb hby at_337) (fun _ _ => ⟨rfl, Kq151, (by decide : 9 + 0 ≤ _), (by decide : 44 + 0 ≤ _)⟩)
    dsimp only [Pt.U, Pt.locs, Pt.cells, Pt.slots] at X152 l152 y152 z152 st152 hQ152
    subst l152 y152 z152
    obtain ⟨rfl, rfl, Kq152⟩ := hQ152
    try rw [List.append_nil] at X152
    obtain ⟨_, _, ⟨T153, L153, k153, n153⟩, -, X153, ⟨Lc153, hQ153, l153, y153, z153⟩, st153⟩ := Jvm.LawKit.callS X152 hx (y := (⟨"com/example/ullr/ullr/files/ListedFileNamePinLaw", "at", "(Ljava/lang/String;[CIII)Z"⟩ : MethodName)) hown137 (mvT hZ137 (w_104 hw)) (mvT hZ137 (w_105 hw)) (mvT hZ137 (w_2 hw)) (mvT hZ137 (w_106 hw)) (by decide) (backOf (W := 0) (rm_att l Z a0 hw [] r_137 t2_137 k2_137 [x0] (own_ln ([x0] : List Int32) (47 : Int32) ([x0] : List Int32).length) b10 k10 ([x0, x1, x2, x3]) (own_lx ([x0] : List Int32) (47 : Int32) (0 + 1)) 2 zc fm T137.heap n0 f148 (⟨(q137_0).1, (q137_0).2.1, (q137_0).2.2.1, (q137_0).2.2.2.1, (q137_0).2.2.2.2⟩ : own_Str Z T137.heap r_137 t2_137 k2_137 ([x0].drop (own_ln [x0] (47 : Int32) [x0].length))) f150 (own_lxp ([x0] : List Int32) (47 : Int32) 1 : (own_lx ([x0] : List Int32) (47 : Int32) (0 + 1)) = own_pr (own_ln ([x0] : List Int32) (47 : Int32) ([x0] : List Int32).length)) (⟨own_ln_le _ _ _, Nat.le_of_ble_eq_true rfl, rfl⟩ : (own_ln ([x0] : List Int32) (47 : Int32) ([x0] : List Int32).length) ≤ [x0].length ∧ [x0].length ≤ 8 ∧ [x0, x1, x2, x3].length = 4) (by decide : 2 < 4) (fun q => absurd q (Nat.not_lt_of_ge (Nat.le_of_ble_eq_true rfl)) : 2 < [x0].length → [x0, x1, x2, x3].getD 2 0 = [x0].getD 2 0) S_COMPACT_STRINGS hp1 S_SIOOBE_FORMATTER hp3) hZ137 (w_106 hw) (w_2 hw) (by decide) (by decide)) (g := (mkF mM 352 Ls147 [(.int (2 : Int32)), (.int (1 : Int32)), (.int (own_lx ([x0] : List Int32) (47 : Int32) (0 + 1))), (.ref b10), (.ref r_137)])) rfl (by rw [hml]; rfl) (argsL := [(.ref r_137), (.ref b10), (.int (own_lx ([x0] : List Int32) (47 : Int32) (0 + 1))), (.int (1 : Int32)), (.int (2 : Int32))]) (rest := []) (lenOf pd_20 rfl) rfl (by show 2 * 0 + _ ≤ _; exact Nat.le_of_eq rfl) (hb hby at_352) (fun _ _ => ⟨rfl, Kq152, (by decide : 9 + 0 ≤ _), (by decide : 44 + 0 ≤ _)⟩)
    dsimp only [Pt.U, Pt.locs, Pt.cells, Pt.slots] at X153 l153 y153 z153 st153 hQ153
    subst l153 y153 z153
    obtain ⟨rfl, rfl, Kq153⟩ := hQ153
    try rw [List.append_nil] at X153
    obtain ⟨_, _, ⟨T154, L154, k154, n154⟩, -, X154, ⟨Lc154, hQ154, l154, y154, z154⟩, st154⟩ := Jvm.LawKit.callS X153 hx (y := (⟨"com/example/ullr/ullr/files/ListedFileNamePinLaw", "at", "(Ljava/lang/String;[CIII)Z"⟩ : MethodName)) hown137 (mvT hZ137 (w_104 hw)) (mvT hZ137 (w_105 hw)) (mvT hZ137 (w_2 hw)) (mvT hZ137 (w_106 hw)) (by decide) (backOf (W := 0) (rm_att l Z a0 hw [] r_137 t2_137 k2_137 [x0] (own_ln ([x0] : List Int32) (47 : Int32) ([x0] : List Int32).length) b10 k10 ([x0, x1, x2, x3]) (own_lx ([x0] : List Int32) (47 : Int32) (0 + 1)) 3 zc fm T137.heap n0 f148 (⟨(q137_0).1, (q137_0).2.1, (q137_0).2.2.1, (q137_0).2.2.2.1, (q137_0).2.2.2.2⟩ : own_Str Z T137.heap r_137 t2_137 k2_137 ([x0].drop (own_ln [x0] (47 : Int32) [x0].length))) f150 (own_lxp ([x0] : List Int32) (47 : Int32) 1 : (own_lx ([x0] : List Int32) (47 : Int32) (0 + 1)) = own_pr (own_ln ([x0] : List Int32) (47 : Int32) ([x0] : List Int32).length)) (⟨own_ln_le _ _ _, Nat.le_of_ble_eq_true rfl, rfl⟩ : (own_ln ([x0] : List Int32) (47 : Int32) ([x0] : List Int32).length) ≤ [x0].length ∧ [x0].length ≤ 8 ∧ [x0, x1, x2, x3].length = 4) (by decide : 3 < 4) (fun q => absurd q (Nat.not_lt_of_ge (Nat.le_of_ble_eq_true rfl)) : 3 < [x0].length → [x0, x1, x2, x3].getD 3 0 = [x0].getD 3 0) S_COMPACT_STRINGS hp1 S_SIOOBE_FORMATTER hp3) hZ137 (w_106 hw) (w_2 hw) (by decide) (by decide)) (g := (mkF mM 367 Ls147 [(.int (3 : Int32)), (.int (1 : Int32)), (.int (own_lx ([x0] : List Int32) (47 : Int32) (0 + 1))), (.ref b10), (.ref r_137)])) rfl (by rw [hml]; rfl) (argsL := [(.ref r_137), (.ref b10), (.int (own_lx ([x0] : List Int32) (47 : Int32) (0 + 1))), (.int (1 : Int32)), (.int (3 : Int32))]) (rest := []) (lenOf pd_20 rfl) rfl (by show 2 * 0 + _ ≤ _; exact Nat.le_of_eq rfl) (hb hby at_367) (fun _ _ => ⟨rfl, Kq153, (by decide : 9 + 0 ≤ _), (by decide : 44 + 0 ≤ _)⟩)
    dsimp only [Pt.U, Pt.locs, Pt.cells, Pt.slots] at X154 l154 y154 z154 st154 hQ154
    subst l154 y154 z154
    obtain ⟨rfl, rfl, Kq154⟩ := hQ154
    try rw [List.append_nil] at X154
    obtain ⟨fs, hr, hrun, hended, hR1, hR2, hR3, hR4⟩ := Stand.leaveW (s := sS) (vm₁ := T137.vm) X154 hS137 (by rw [Kq154]; exact hk137) (v := some (.int (1 : Int32))) (fun h => by rw [Bd.returns] at h; cases h)
    refine ⟨_, _, pre39 _ ?_, hrun, hended, _, _, rfl, ?_, ?_, hR1, hR2, hR3, hR4.mono (by decide) (by decide)⟩
    · refine XS.iload X32.here hx rfl (hb hby at_58) rfl ?_
      show Steps pP.tables eE below (T32.setTop (mkF mM 60 Ls92 [(.int (1 : Int32))])) _
      refine XS.ifYes X32.here hx rfl (pc0 := 60) (pc' := 78) rfl (hb hby at_60) rfl ((if0 _ _).trans (feq (by decide : ¬ ((1 : Int32) = (0 : Int32)))).2) (by decide) (by decide) ?_
      show Steps pP.tables eE below (T32.setTop (mkF mM 78 Ls92 [])) _
      refine XS.iload X32.here hx rfl (hb hby at_78) rfl ?_
      show Steps pP.tables eE below (T32.setTop (mkF mM 80 Ls92 [(.int (1 : Int32))])) _
      refine XS.iconst X32.here hx rfl (hb hby at_80) ?_
      show Steps pP.tables eE below (T32.setTop (mkF mM 81 Ls92 [(.int (1 : Int32)), (.int (1 : Int32))])) _
      refine XS.icmpNo X32.here hx rfl (hb hby at_81) rfl (teq (by decide : (1 : Int32) = (1 : Int32))).2 ?_
      show Steps pP.tables eE below (T32.setTop (mkF mM 84 Ls92 [])) _
      refine st93 _ ?_
      show Steps pP.tables eE below (T93.setTop (mkF mM 87 Ls92 [(.ref b93)])) _
      refine XS.dup X93.here hx rfl (hb hby at_87) rfl rfl ?_
      show Steps pP.tables eE below (T93.setTop (mkF mM 88 Ls92 [(.ref b93), (.ref b93)])) _
      refine XS.iconst X93.here hx rfl (hb hby at_88) ?_
      show Steps pP.tables eE below (T93.setTop (mkF mM 89 Ls92 [(.int (1 : Int32)), (.ref b93), (.ref b93)])) _
      refine st98 _ ?_
      show Steps pP.tables eE below (T98.setTop (mkF mM 91 Ls92 [(.ref b98), (.ref b93), (.ref b93)])) _
      refine XS.dup X98.here hx rfl (hb hby at_91) rfl rfl ?_
      show Steps pP.tables eE below (T98.setTop (mkF mM 92 Ls92 [(.ref b98), (.ref b98), (.ref b93), (.ref b93)])) _
      refine XS.iconst X98.here hx rfl (hb hby at_92) ?_
      show Steps pP.tables eE below (T98.setTop (mkF mM 93 Ls92 [(.int (0 : Int32)), (.ref b98), (.ref b98), (.ref b93), (.ref b93)])) _
      refine XS.iload X98.here hx rfl (hb hby at_93) rfl ?_
      show Steps pP.tables eE below (T98.setTop (mkF mM 95 Ls92 [(.int x0), (.int (0 : Int32)), (.ref b98), (.ref b98), (.ref b93), (.ref b93)])) _
      refine st103 _ ?_
      show Steps pP.tables eE below (T103.setTop (mkF mM 96 Ls92 [(.ref b98), (.ref b93), (.ref b93)])) _
      refine st113.trans ?_
      show Steps pP.tables eE below (T113.setTop (mkF mM 99 Ls92 [(.ref b93)])) _
      refine XS.astore X113.here hx rfl (hb hby at_99) rfl rfl (l' := Ls119) rfl ?_
      show Steps pP.tables eE below (T113.setTop (mkF mM 101 Ls119 [])) _
      refine XS.goto X113.here hx rfl (pc0 := 101) (pc' := 203) rfl (hb hby at_101) (by decide) (by decide) ?_
      show Steps pP.tables eE below (T113.setTop (mkF mM 203 Ls119 [])) _
      refine st120 _ ?_
      show Steps pP.tables eE below (T120.setTop (mkF mM 206 Ls119 [(.ref b120)])) _
      refine XS.dup X120.here hx rfl (hb hby at_206) rfl rfl ?_
      show Steps pP.tables eE below (T120.setTop (mkF mM 207 Ls119 [(.ref b120), (.ref b120)])) _
      refine XS.aload X120.here hx rfl (hb hby at_207) rfl rfl ?_
      show Steps pP.tables eE below (T120.setTop (mkF mM 209 Ls119 [(.ref b93), (.ref b120), (.ref b120)])) _
      refine XS.lload X120.here hx rfl (hb hby at_209) rfl ?_
      show Steps pP.tables eE below (T120.setTop (mkF mM 211 Ls119 [(.long p5), (.ref b93), (.ref b120), (.ref b120)])) _
      refine st127.trans ?_
      show Steps pP.tables eE below (T127.setTop (mkF mM 214 Ls119 [(.ref b120)])) _
      refine XS.astore X127.here hx rfl (hb hby at_214) rfl rfl (l' := Ls131) rfl ?_
      show Steps pP.tables eE below (T127.setTop (mkF mM 216 Ls131 [])) _
      refine XS.aload X127.here hx rfl (hb hby at_216) rfl rfl ?_
      show Steps pP.tables eE below (T127.setTop (mkF mM 218 Ls131 [(.ref b120)])) _
      refine st137.trans ?_
      show Steps pP.tables eE below (T137.setTop (mkF mM 221 Ls131 [(.ref r_137)])) _
      refine XS.astore X137.here hx rfl (hb hby at_221) rfl rfl (l' := Ls141) rfl ?_
      show Steps pP.tables eE below (T137.setTop (mkF mM 223 Ls141 [])) _
      refine XS.iconst X137.here hx rfl (hb hby at_223) ?_
      show Steps pP.tables eE below (T137.setTop (mkF mM 224 Ls141 [(.int (-1 : Int32))])) _
      refine XS.istore X137.here hx rfl (hb hby at_224) rfl (l' := Ls142) rfl ?_
      show Steps pP.tables eE below (T137.setTop (mkF mM 226 Ls142 [])) _
      refine st143 _ ?_
      show Steps pP.tables eE below (T143.setTop (mkF mM 241 Ls147 [])) _
      refine XS.iload X143.here hx rfl (hb hby at_241) rfl ?_
      show Steps pP.tables eE below (T143.setTop (mkF mM 243 Ls147 [(.int (1 : Int32))])) _
      refine XS.iconst X143.here hx rfl (hb hby at_243) ?_
      show Steps pP.tables eE below (T143.setTop (mkF mM 244 Ls147 [(.int (1 : Int32)), (.int (1 : Int32))])) _
      refine XS.icmpYes X143.here hx rfl (pc0 := 244) (pc' := 257) rfl (hb hby at_244) rfl (flt (by decide : ¬ ((1 : Int32) < (1 : Int32)))).2.2.2 (by decide) (by decide) ?_
      show Steps pP.tables eE below (T143.setTop (mkF mM 257 Ls147 [])) _
      refine XS.iload X143.here hx rfl (hb hby at_257) rfl ?_
      show Steps pP.tables eE below (T143.setTop (mkF mM 259 Ls147 [(.int (1 : Int32))])) _
      refine XS.iconst X143.here hx rfl (hb hby at_259) ?_
      show Steps pP.tables eE below (T143.setTop (mkF mM 260 Ls147 [(.int (2 : Int32)), (.int (1 : Int32))])) _
      refine XS.icmpYes X143.here hx rfl (pc0 := 260) (pc' := 273) rfl (hb hby at_260) rfl (flt (by decide : ¬ ((2 : Int32) < (1 : Int32)))).2.2.2 (by decide) (by decide) ?_
      show Steps pP.tables eE below (T143.setTop (mkF mM 273 Ls147 [])) _
      refine XS.iload X143.here hx rfl (hb hby at_273) rfl ?_
      show Steps pP.tables eE below (T143.setTop (mkF mM 275 Ls147 [(.int (1 : Int32))])) _
      refine XS.iconst X143.here hx rfl (hb hby at_275) ?_
      show Steps pP.tables eE below (T143.setTop (mkF mM 276 Ls147 [(.int (3 : Int32)), (.int (1 : Int32))])) _
      refine XS.icmpYes X143.here hx rfl (pc0 := 276) (pc' := 289) rfl (hb hby at_276) rfl (flt (by decide : ¬ ((3 : Int32) < (1 : Int32)))).2.2.2 (by decide) (by decide) ?_
      show Steps pP.tables eE below (T143.setTop (mkF mM 289 Ls147 [])) _
      refine XS.aload X143.here hx rfl (hb hby at_289) rfl rfl ?_
      show Steps pP.tables eE below (T143.setTop (mkF mM 291 Ls147 [(.ref r_137)])) _
      refine XS.ifnonnullYes X143.here hx rfl (pc0 := 291) (pc' := 296) rfl (hb hby at_291) rfl (by decide) (by decide) ?_
      show Steps pP.tables eE below (T143.setTop (mkF mM 296 Ls147 [])) _
      refine XS.aload X143.here hx rfl (hb hby at_296) rfl rfl ?_
      show Steps pP.tables eE below (T143.setTop (mkF mM 298 Ls147 [(.ref r_137)])) _
      refine st149.trans ?_
      show Steps pP.tables eE below (T149.setTop (mkF mM 301 Ls147 [(.int (Int32.ofNat (([x0].drop (own_ln [x0] (47 : Int32) [x0].length))).length))])) _
      refine XS.iload X149.here hx rfl (hb hby at_301) rfl ?_
      show Steps pP.tables eE below (T149.setTop (mkF mM 303 Ls147 [(.int (1 : Int32)), (.int (Int32.ofNat (([x0].drop (own_ln [x0] (47 : Int32) [x0].length))).length))])) _
      refine XS.iload X149.here hx rfl (hb hby at_303) rfl ?_
      show Steps pP.tables eE below (T149.setTop (mkF mM 305 Ls147 [(.int (own_lx ([x0] : List Int32) (47 : Int32) (0 + 1))), (.int (1 : Int32)), (.int (Int32.ofNat (([x0].drop (own_ln [x0] (47 : Int32) [x0].length))).length))])) _
      refine XS.isub X149.here hx rfl (hb hby at_305) rfl ?_
      show Steps pP.tables eE below (T149.setTop (mkF mM 306 Ls147 [(.int ((1 : Int32) - (own_lx ([x0] : List Int32) (47 : Int32) (0 + 1)))), (.int (Int32.ofNat (([x0].drop (own_ln [x0] (47 : Int32) [x0].length))).length))])) _
      refine XS.iconst X149.here hx rfl (hb hby at_306) ?_
      show Steps pP.tables eE below (T149.setTop (mkF mM 307 Ls147 [(.int (1 : Int32)), (.int ((1 : Int32) - (own_lx ([x0] : List Int32) (47 : Int32) (0 + 1)))), (.int (Int32.ofNat (([x0].drop (own_ln [x0] (47 : Int32) [x0].length))).length))])) _
      refine XS.isub X149.here hx rfl (hb hby at_307) rfl ?_
      show Steps pP.tables eE below (T149.setTop (mkF mM 308 Ls147 [(.int (((1 : Int32) - (own_lx ([x0] : List Int32) (47 : Int32) (0 + 1))) - (1 : Int32))), (.int (Int32.ofNat (([x0].drop (own_ln [x0] (47 : Int32) [x0].length))).length))])) _
      refine XS.icmpYes X149.here hx rfl (pc0 := 308) (pc' := 313) rfl (hb hby at_308) rfl (teq (own_lenk ([x0] : List Int32) (47 : Int32) (Nat.le_of_ble_eq_true rfl))).1 (by decide) (by decide) ?_
      show Steps pP.tables eE below (T149.setTop (mkF mM 313 Ls147 [])) _
      refine XS.aload X149.here hx rfl (hb hby at_313) rfl rfl ?_
      show Steps pP.tables eE below (T149.setTop (mkF mM 315 Ls147 [(.ref r_137)])) _
      refine XS.aload X149.here hx rfl (hb hby at_315) rfl rfl ?_
      show Steps pP.tables eE below (T149.setTop (mkF mM 317 Ls147 [(.ref b10), (.ref r_137)])) _
      refine XS.iload X149.here hx rfl (hb hby at_317) rfl ?_
      show Steps pP.tables eE below (T149.setTop (mkF mM 319 Ls147 [(.int (own_lx ([x0] : List Int32) (47 : Int32) (0 + 1))), (.ref b10), (.ref r_137)])) _
      refine XS.iload X149.here hx rfl (hb hby at_319) rfl ?_
      show Steps pP.tables eE below (T149.setTop (mkF mM 321 Ls147 [(.int (1 : Int32)), (.int (own_lx ([x0] : List Int32) (47 : Int32) (0 + 1))), (.ref b10), (.ref r_137)])) _
      refine XS.iconst X149.here hx rfl (hb hby at_321) ?_
      show Steps pP.tables eE below (T149.setTop (mkF mM 322 Ls147 [(.int (0 : Int32)), (.int (1 : Int32)), (.int (own_lx ([x0] : List Int32) (47 : Int32) (0 + 1))), (.ref b10), (.ref r_137)])) _
      refine st151 _ ?_
      show Steps pP.tables eE below (T151.setTop (mkF mM 325 Ls147 [(.int (1 : Int32))])) _
      refine XS.ifNo X151.here hx rfl (hb hby at_325) rfl ((if0 _ _).trans (feq (by decide : ¬ ((1 : Int32) = (0 : Int32)))).1) ?_
      show Steps pP.tables eE below (T151.setTop (mkF mM 328 Ls147 [])) _
      refine XS.aload X151.here hx rfl (hb hby at_328) rfl rfl ?_
      show Steps pP.tables eE below (T151.setTop (mkF mM 330 Ls147 [(.ref r_137)])) _
      refine XS.aload X151.here hx rfl (hb hby at_330) rfl rfl ?_
      show Steps pP.tables eE below (T151.setTop (mkF mM 332 Ls147 [(.ref b10), (.ref r_137)])) _
      refine XS.iload X151.here hx rfl (hb hby at_332) rfl ?_
      show Steps pP.tables eE below (T151.setTop (mkF mM 334 Ls147 [(.int (own_lx ([x0] : List Int32) (47 : Int32) (0 + 1))), (.ref b10), (.ref r_137)])) _
      refine XS.iload X151.here hx rfl (hb hby at_334) rfl ?_
      show Steps pP.tables eE below (T151.setTop (mkF mM 336 Ls147 [(.int (1 : Int32)), (.int (own_lx ([x0] : List Int32) (47 : Int32) (0 + 1))), (.ref b10), (.ref r_137)])) _
      refine XS.iconst X151.here hx rfl (hb hby at_336) ?_
      show Steps pP.tables eE below (T151.setTop (mkF mM 337 Ls147 [(.int (1 : Int32)), (.int (1 : Int32)), (.int (own_lx ([x0] : List Int32) (47 : Int32) (0 + 1))), (.ref b10), (.ref r_137)])) _
      refine st152 _ ?_
      show Steps pP.tables eE below (T152.setTop (mkF mM 340 Ls147 [(.int (1 : Int32))])) _
      refine XS.ifNo X152.here hx rfl (hb hby at_340) rfl ((if0 _ _).trans (feq (by decide : ¬ ((1 : Int32) = (0 : Int32)))).1) ?_
      show Steps pP.tables eE below (T152.setTop (mkF mM 343 Ls147 [])) _
      refine XS.aload X152.here hx rfl (hb hby at_343) rfl rfl ?_
      show Steps pP.tables eE below (T152.setTop (mkF mM 345 Ls147 [(.ref r_137)])) _
      refine XS.aload X152.here hx rfl (hb hby at_345) rfl rfl ?_
      show Steps pP.tables eE below (T152.setTop (mkF mM 347 Ls147 [(.ref b10), (.ref r_137)])) _
      refine XS.iload X152.here hx rfl (hb hby at_347) rfl ?_
      show Steps pP.tables eE below (T152.setTop (mkF mM 349 Ls147 [(.int (own_lx ([x0] : List Int32) (47 : Int32) (0 + 1))), (.ref b10), (.ref r_137)])) _
      refine XS.iload X152.here hx rfl (hb hby at_349) rfl ?_
      show Steps pP.tables eE below (T152.setTop (mkF mM 351 Ls147 [(.int (1 : Int32)), (.int (own_lx ([x0] : List Int32) (47 : Int32) (0 + 1))), (.ref b10), (.ref r_137)])) _
      refine XS.iconst X152.here hx rfl (hb hby at_351) ?_
      show Steps pP.tables eE below (T152.setTop (mkF mM 352 Ls147 [(.int (2 : Int32)), (.int (1 : Int32)), (.int (own_lx ([x0] : List Int32) (47 : Int32) (0 + 1))), (.ref b10), (.ref r_137)])) _
      refine st153 _ ?_
      show Steps pP.tables eE below (T153.setTop (mkF mM 355 Ls147 [(.int (1 : Int32))])) _
      refine XS.ifNo X153.here hx rfl (hb hby at_355) rfl ((if0 _ _).trans (feq (by decide : ¬ ((1 : Int32) = (0 : Int32)))).1) ?_
      show Steps pP.tables eE below (T153.setTop (mkF mM 358 Ls147 [])) _
      refine XS.aload X153.here hx rfl (hb hby at_358) rfl rfl ?_
      show Steps pP.tables eE below (T153.setTop (mkF mM 360 Ls147 [(.ref r_137)])) _
      refine XS.aload X153.here hx rfl (hb hby at_360) rfl rfl ?_
      show Steps pP.tables eE below (T153.setTop (mkF mM 362 Ls147 [(.ref b10), (.ref r_137)])) _
      refine XS.iload X153.here hx rfl (hb hby at_362) rfl ?_
      show Steps pP.tables eE below (T153.setTop (mkF mM 364 Ls147 [(.int (own_lx ([x0] : List Int32) (47 : Int32) (0 + 1))), (.ref b10), (.ref r_137)])) _
      refine XS.iload X153.here hx rfl (hb hby at_364) rfl ?_
      show Steps pP.tables eE below (T153.setTop (mkF mM 366 Ls147 [(.int (1 : Int32)), (.int (own_lx ([x0] : List Int32) (47 : Int32) (0 + 1))), (.ref b10), (.ref r_137)])) _
      refine XS.iconst X153.here hx rfl (hb hby at_366) ?_
      show Steps pP.tables eE below (T153.setTop (mkF mM 367 Ls147 [(.int (3 : Int32)), (.int (1 : Int32)), (.int (own_lx ([x0] : List Int32) (47 : Int32) (0 + 1))), (.ref b10), (.ref r_137)])) _
      refine st154 _ ?_
      show Steps pP.tables eE below (T154.setTop (mkF mM 370 Ls147 [(.int (1 : Int32))])) _
      refine XS.ifNo X154.here hx rfl (hb hby at_370) rfl ((if0 _ _).trans (feq (by decide : ¬ ((1 : Int32) = (0 : Int32)))).1) ?_
      show Steps pP.tables eE below (T154.setTop (mkF mM 373 Ls147 [])) _
      refine XS.iconst X154.here hx rfl (hb hby at_373) ?_
      show Steps pP.tables eE below (T154.setTop (mkF mM 374 Ls147 [(.int (1 : Int32))])) _
      refine XS.goto X154.here hx rfl (pc0 := 374) (pc' := 378) rfl (hb hby at_374) (by decide) (by decide) ?_
      show Steps pP.tables eE below (T154.setTop (mkF mM 378 Ls147 [(.int (1 : Int32))])) _
      exact retN X154 hx (t := .boolean) Bd.returns (by simp) (hb hby at_378) hr
    · show Q_law Z p0 p1 p2 p3 p4 p5 zc fm h0 n0 _ T154.heap _
      rw [Kq154]
      exact ⟨rfl, N137, K140⟩
    · show CHr Z own_EL sS.vm sS.heap T154.vm T154.heap
      rw [hh, Kq154]
      exact CH138.trans (CHv.at X154 hZ137 hEL CH138.1)
  · let Ls156 : Array Slot := #[.val (.int p0), .val (.int p1), .val (.int p2), .val (.int p3), .val (.int p4), .val (.long p5), .second, .val (.int (2 : Int32)), .val (.int x0), .val (.int x1), .val (.int x2), .val (.int x3), .val (.ref b10), .unset, .unset, .unset, .unset]
    have hcs : ∀ c ∈ ([x0, x1] : List Int32), ¬ c < 0 ∧ ¬ (255 : Int32) < c := by
      intro c hc
      simp only [List.mem_cons, List.not_mem_nil, or_false] at hc
      rcases hc with rfl | rfl
      all_goals first | exact hxb0 | exact hxb1
    obtain ⟨T157, h157, X157, e157, E157, A157, D157, -, st157⟩ := newO X32 hx hZ0 hown0 (w_5 hw) (w_6 hw) (w_7 hw) e32 (g := (mkF mM 110 Ls156 [])) rfl (hb hby at_110) (by decide) (by decide)
    obtain ⟨b157, g157⟩ : ∃ z, z = h32.size := ⟨_, rfl⟩
    rw [← g157] at A157 D157 st157
    have Sn_b157 : Safe Z own_EL sS.vm h32 b157 := Safe.new (Nat.le_of_eq g157.symm)
    have f158 := (((((O0.ext E10).wr W14 g_b10).wr W20 g_b10).wr W26 g_b10).wr W32 g_b10)
    have g_b157 : n0 ≤ b157 := Nat.le_trans (own_osz f158) (Nat.le_of_eq g157.symm)
    have sz_b157 : h0.size ≤ b157 := Nat.le_trans K37.1 (Nat.le_of_eq g157.symm)
    have CH159 : CHr Z own_EL sS.vm h0 sS.vm h157 := CH33.trans (CHr.ext E157 CH33.1)
    have hk160 := Nat.le_trans hk36 E157.1
    have K161 : Keep h0 h157 [] := K37.ext E157
    have F_b157_value : Fld Z h157 b157 "java/lang/String" "value" "[B" .null := D157 (Or.inr (w_20 hw)) (ty := (.array .byte)) (by decide)
    have F_b157_coder : Fld Z h157 b157 "java/lang/String" "coder" "B" (.int (0 : Int32)) := D157 (Or.inr (w_21 hw)) (ty := .byte) (by decide)
    obtain ⟨T162, h162, k162, X162, e162, E162, A162, st162⟩ := newP X157 hx hZ0 (aty := .char) (w_4 hw) e157 (g := (mkF mM 115 Ls156 [(.int (2 : Int32)), (.ref b157), (.ref b157)])) rfl (hb hby at_115) rfl (by decide) (cap := 2) (by decide) (by decide) (by decide) (by decide)
    obtain ⟨b162, g162⟩ : ∃ z, z = h157.size := ⟨_, rfl⟩
    rw [← g162] at A162 st162
    have Sn_b162 : Safe Z own_EL sS.vm h157 b162 := Safe.new (Nat.le_of_eq g162.symm)
    have f163 := (f158.ext E157)
    have g_b162 : n0 ≤ b162 := Nat.le_trans (own_osz f163) (Nat.le_of_eq g162.symm)
    have sz_b162 : h0.size ≤ b162 := Nat.le_trans K161.1 (Nat.le_of_eq g162.symm)
    have CH164 : CHr Z own_EL sS.vm h0 sS.vm h162 := CH159.trans (CHr.ext E162 CH159.1)
    have hk165 := Nat.le_trans hk160 E162.1
    have K166 : Keep h0 h162 [] := K161.ext E162
    have V162 : Arv Z h162 b162 k162 .char (2 : Int32) [(.int (0 : Int32)), (.int (0 : Int32))] (.int (0 : Int32)) := (Arv.new A162 (by decide)).pad (pad_rep [] (.int (0 : Int32)) 2)
    obtain ⟨cl167, Ar167, qk167, S167, Nn167, Hh167, G167⟩ := id V162
    have hin167 : ¬ ((0 : Int32) < 0 ∨ cl167.slots.size ≤ ((0 : Int32)).toNatClampNeg) := inb_of S167 ⟨by decide, by decide⟩
    obtain ⟨T167, h167, X167, e167, W167, st167⟩ := stC X162 hx hZ0 e162 Ar167 (j := (0 : Int32)) hin167 (g := (mkF mM 121 Ls156 [(.int x0), (.int (0 : Int32)), (.ref b162), (.ref b162), (.ref b157), (.ref b157)])) rfl rfl (hb hby at_121)
    rw [own_nc hxb0] at W167
    have f170 := (Safe.ext E162 CH159.1 Sn_b162)
    have sfp169 := f170
    have CH168 : CHr Z own_EL sS.vm h0 sS.vm h167 := CH164.trans (CHr.wr W167 sfp169 CH164.1)
    have hk171 := Nat.le_trans hk165 (Nat.le_of_eq W167.size.symm)
    have K172 : Keep h0 h167 [] := K166.wr W167 (Or.inr sz_b162)
    have V167 : Arv Z h167 b162 k162 .char (2 : Int32) [(.int x0), (.int (0 : Int32))] (.int (0 : Int32)) := Arv.set Ar167 qk167 S167 Nn167 Hh167 G167 (own_nc hxb0 ▸ fits_nar_char _) W167 0 rfl (Nat.le_of_ble_eq_true rfl)
    have N167 := Fr.snoc X167 N32 g_b162
    obtain ⟨cl173, Ar173, qk173, S173, Nn173, Hh173, G173⟩ := id V167
    have hin173 : ¬ ((1 : Int32) < 0 ∨ cl173.slots.size ≤ ((1 : Int32)).toNatClampNeg) := inb_of S173 ⟨by decide, by decide⟩
    obtain ⟨T173, h173, X173, e173, W173, st173⟩ := stC X167 hx hZ0 e167 Ar173 (j := (1 : Int32)) hin173 (g := (mkF mM 126 Ls156 [(.int x1), (.int (1 : Int32)), (.ref b162), (.ref b162), (.ref b157), (.ref b157)])) rfl rfl (hb hby at_126)
    rw [own_nc hxb1] at W173
    have f176 := (Safe.wr W167 sfp169 CH164.1 f170)
    have sfp175 := f176
    have CH174 : CHr Z own_EL sS.vm h0 sS.vm h173 := CH168.trans (CHr.wr W173 sfp175 CH168.1)
    have hk177 := Nat.le_trans hk171 (Nat.le_of_eq W173.size.symm)
    have K178 : Keep h0 h173 [] := K172.wr W173 (Or.inr sz_b162)
    have V173 : Arv Z h173 b162 k162 .char (2 : Int32) [(.int x0), (.int x1)] (.int (0 : Int32)) := Arv.set Ar173 qk173 S173 Nn173 Hh173 G173 (own_nc hxb1 ▸ fits_nar_char _) W173 1 rfl (Nat.le_of_ble_eq_true rfl)
    have N173 := Fr.snoc X173 N167 g_b162
    have f179 := (((f163.ext E162).wr W167 g_b162).wr W173 g_b162)
    have f180 := (((A157.ext E162).wr W167).wr W173)
    have f181 := (((F_b157_value.ext E162).other W167 (Or.inl (Nat.ne_of_lt (Nat.lt_of_lt_of_le (A157).lt (Nat.le_of_eq g162.symm))))).other W173 (Or.inl (Nat.ne_of_lt (Nat.lt_of_lt_of_le (A157).lt (Nat.le_of_eq g162.symm)))))
    have f182 := (((F_b157_coder.ext E162).other W167 (Or.inl (Nat.ne_of_lt (Nat.lt_of_lt_of_le (A157).lt (Nat.le_of_eq g162.symm))))).other W173 (Or.inl (Nat.ne_of_lt (Nat.lt_of_lt_of_le (A157).lt (Nat.le_of_eq g162.symm)))))
    obtain ⟨_, _, ⟨T183, L183, k183, n183⟩, -, X183, ⟨Lc183, hQ183, l183, y183, z183⟩, st183⟩ := X173.specialBack hx (y := (⟨"java/lang/String", "<init>", "([C)V"⟩ : MethodName)) rfl hown0 (mvT hZ0 (w_8 hw)) (mvT hZ0 (w_9 hw)) (mvT hZ0 (w_10 hw)) (by decide) (own_new (W := 1) hZ0 hw (cs := [x0, x1]) (n := 2) g_b157 (own_osz f179) f180 f181 f182 V173 (Sta.ext (f179).2 S_COMPACT_STRINGS) hp1 rfl rfl (by decide) (by decide) hcs (by decide) (by decide)) (g := (mkF mM 127 Ls156 [(.ref b162), (.ref b157), (.ref b157)])) rfl (by rw [hml]; rfl) (Steps.refl _) (a := b157) (argsL := [(.ref b162)]) (rest := [(.ref b157)]) (lenOf pd_17 rfl) rfl (by show 2 * 0 + _ ≤ _; exact Nat.le_of_eq rfl) (hb hby at_127) (fun _ _ => ⟨rfl, e173, (by decide : 3 + 1 ≤ _), (by decide : 10 + 2 ≤ _)⟩)
    dsimp only [Pt.U, Pt.locs, Pt.cells, Pt.slots] at X183 l183 y183 z183 st183 hQ183
    subst l183 y183 z183
    obtain ⟨rfl, Nq183, Kq183, t183, kb183, hs183, Sq183⟩ := hQ183
    have N183 := Fr.app N173 Nq183
    have g_t183 : n0 ≤ t183 := Nat.le_trans (own_osz f179) hs183
    have sz_t183 : h0.size ≤ t183 := Nat.le_trans K178.1 hs183
    have f185 := (Safe.wr W173 sfp175 CH168.1 (Safe.wr W167 sfp169 CH164.1 (Safe.ext E162 CH159.1 (Safe.ext E157 CH33.1 Sn_b157))))
    have sfp186 := (sfS f185 sf0)
    have CH184 : CHr Z own_EL sS.vm h0 sS.vm T183.heap := CH174.trans (CHr.keep Kq183 sfp186 CH174.1)
    have hk187 := Nat.le_trans hk177 Kq183.1
    have K188 : Keep h0 T183.heap [] := K178.trans Kq183 (allS (Or.inr sz_b157) all0)
    let Ls189 : Array Slot := #[.val (.int p0), .val (.int p1), .val (.int p2), .val (.int p3), .val (.int p4), .val (.long p5), .second, .val (.int (2 : Int32)), .val (.int x0), .val (.int x1), .val (.int x2), .val (.int x3), .val (.ref b10), .val (.ref b157), .unset, .unset, .unset]
    obtain ⟨T190, h190, X190, e190, E190, A190, D190, -, st190⟩ := newO X183 hx hZ0 hown0 (w_26 hw) (w_27 hw) (w_28 hw) rfl (g := (mkF mM 203 Ls189 [])) rfl (hb hby at_203) (by decide) (by decide)
    obtain ⟨b190, g190⟩ : ∃ z, z = T183.heap.size := ⟨_, rfl⟩
    rw [← g190] at A190 D190 st190
    have Sn_b190 : Safe Z own_EL sS.vm T183.heap b190 := Safe.new (Nat.le_of_eq g190.symm)
    have f191 := (f179.keep Kq183 (allS g_b157 all0))
    have g_b190 : n0 ≤ b190 := Nat.le_trans (own_osz f191) (Nat.le_of_eq g190.symm)
    have sz_b190 : h0.size ≤ b190 := Nat.le_trans K188.1 (Nat.le_of_eq g190.symm)
    have CH192 : CHr Z own_EL sS.vm h0 sS.vm h190 := CH184.trans (CHr.ext E190 CH184.1)
    have hk193 := Nat.le_trans hk187 E190.1
    have K194 : Keep h0 h190 [] := K188.ext E190
    have F_b190__path : Fld Z h190 b190 "com/example/ullr/ullr/files/ListedFile" "_path" "Ljava/lang/String;" .null := D190 (Or.inr (w_40 hw)) (ty := (.object "java/lang/String")) (by decide)
    have F_b190__bytes : Fld Z h190 b190 "com/example/ullr/ullr/files/ListedFile" "_bytes" "J" (.long (0 : Int64)) := D190 (Or.inr (w_42 hw)) (ty := .long) (by decide)
    have f195 := ((Sq183).1.ext E190)
    have f196 := (f191.ext E190)
    obtain ⟨_, _, ⟨T197, L197, k197, n197⟩, -, X197, hS2197, hg2197, ⟨Lc197, hQ197, l197, y197, z197, CHl197⟩, st197⟩ := X190.specialBackS hx (y := (⟨"com/example/ullr/ullr/files/ListedFile", "<init>", "(Ljava/lang/String;J)V"⟩ : MethodName)) rfl hown0 (mvT hZ0 (w_29 hw)) (mvT hZ0 (w_30 hw)) (mvT hZ0 (w_31 hw)) (by decide) (own_backOfSH (s := sS) (vm0 := sS.vm) (rm := ({ frames := 1, cells := 2, slots := 20, locals := 14 } : Room)) (W := 1) (rm_fini l Z a0 hw [] b190 b157 p5 .null (.long (0 : Int64)) h190 n0 f196 A190 F_b190__path F_b190__bytes g_b190 f195) hZ0 (w_31 hw) (w_28 hw) (by decide) (by decide) hEL CH192.1 own_sf0) (g := (mkF mM 211 Ls189 [(.long p5), (.ref b157), (.ref b190), (.ref b190)])) rfl (by rw [hml]; rfl) (Steps.refl _) (a := b190) (argsL := [(.ref b157), (.long p5)]) (rest := [(.ref b190)]) (lenOf pd_18 rfl) rfl (by show 2 * 0 + _ ≤ _; exact Nat.le_of_eq rfl) (hb hby at_211) (fun _ _ => ⟨rfl, e190, (by decide : 5 + 2 ≤ _), (by decide : 14 + 20 ≤ _)⟩)
    dsimp only [Pt.U, Pt.locs, Pt.cells, Pt.slots] at X197 l197 y197 z197 st197 hQ197 hS2197 hg2197 CHl197
    subst l197 y197 z197
    have hS197 := foldS hS0 (by rw [e190]; exact hk193) hS2197 hg2197
    have hZ197 : Z.Warmed39 (sS.setVm T197.vm).vm := State.Warmed39.trans (t := sS.setVm sS.vm) hZ0 hS2197.1
    have hown197 : (sS.setVm T197.vm).vm.findClass "com/example/ullr/ullr/files/ListedFileNamePinLaw" = some mM.cls := by rw [show (sS.setVm T197.vm).vm = T197.vm from rfl, hS2197.1.alike.findClass]; exact hown0
    have hk197 : T197.heap.size ≤ T197.heap.size := Nat.le_refl _
    replace X197 : Stand pP l eE room_1 (sS.setVm T197.vm) mM _ below meth cC T197 _ _ _ := X197
    obtain ⟨rfl, Nq197, Kq197, q197_0, q197_1⟩ := hQ197
    have N197 := Fr.app N183 Nq197
    have CH198 : CHr Z own_EL sS.vm h0 T197.vm T197.heap := CH192.trans (CHl197)
    skip
    have K200 : Keep h0 T197.heap [] := K194.trans Kq197 (allS (Or.inr sz_b190) all0)
    let Ls201 : Array Slot := #[.val (.int p0), .val (.int p1), .val (.int p2), .val (.int p3), .val (.int p4), .val (.long p5), .second, .val (.int (2 : Int32)), .val (.int x0), .val (.int x1), .val (.int x2), .val (.int x3), .val (.ref b10), .val (.ref b157), .val (.ref b190), .unset, .unset]
    have f202 := (f195.keep Kq197)
    have f203 := (((Sq183).2.1.ext E190).keep Kq197 (ninS (Nat.ne_of_lt (Nat.lt_of_lt_of_le ((Sq183).1).lt (Nat.le_of_eq g190.symm))) nin0))
    have f204 := (((Sq183).2.2.1.ext E190).keep Kq197 (ninS (Nat.ne_of_lt (Nat.lt_of_lt_of_le ((Sq183).1).lt (Nat.le_of_eq g190.symm))) nin0))
    have f205 := (((Sq183).2.2.2.1.ext E190).keep Kq197 (ninS (Nat.ne_of_lt (Nat.lt_of_lt_of_le ((Sq183).2.2.2.1).lt (Nat.le_of_eq g190.symm))) nin0))
    have f206 := (f196.keep Kq197 (allS g_b190 all0))
    obtain ⟨cq207, kq207, q207a, q207b, q207c⟩ := isOf hZ197 rfl q197_0
    obtain ⟨_, _, ⟨T207, L207, k207, n207⟩, -, X207, hS2207, hg2207, ⟨Lc207, hQ207, l207, y207, z207, CHl207⟩, st207⟩ := X197.virtualBackS hx (y := (⟨"com/example/ullr/ullr/files/ListedFile", "name", "()Ljava/lang/String;"⟩ : MethodName)) (z := (⟨"com/example/ullr/ullr/files/ListedFile", "name", "()Ljava/lang/String;"⟩ : MethodName)) hown197 (mvT hZ197 (w_43 hw)) (mvT hZ197 (w_44 hw)) (notFace_of_selects (args := #[]) (mvT hZ197 (w_46 hw))) (mvT hZ197 (w_46 hw)) (mvT hZ197 (w_45 hw)) (by decide) (own_backOfSH (s := sS) (vm0 := T197.vm) (rm := ({ frames := 6, cells := 2, slots := 12, locals := 93 } : Room)) (W := 0) (rm_name l Z a0 hw [] b190 b157 t183 kb183 ([x0, x1]) zc fm T197.heap n0 f206 q197_1 (⟨f202, f203, f204, f205, (Sq183).2.2.2.2⟩ : own_Str Z T197.heap b157 t183 kb183 [x0, x1]) (Nat.le_of_ble_eq_true rfl : [x0, x1].length ≤ 8) S_COMPACT_STRINGS hp1 S_SIOOBE_FORMATTER hp3) hZ197 (w_47 hw) (w_28 hw) (by decide) (by decide) hEL CH198.1 own_sf0) q207a q207c (g := (mkF mM 218 Ls201 [(.ref b190)])) rfl (by rw [hml]; rfl) (Steps.refl _) (argsL := []) (rest := []) (lenOf pd_19 rfl) rfl (by show 2 * 0 + _ ≤ _; exact Nat.le_of_eq rfl) (hb hby at_218) (fun _ _ => ⟨rfl, rfl, (by decide : 7 + 2 ≤ _), (by decide : 34 + 12 ≤ _)⟩)
    dsimp only [Pt.U, Pt.locs, Pt.cells, Pt.slots] at X207 l207 y207 z207 st207 hQ207 hS2207 hg2207 CHl207
    subst l207 y207 z207
    have hS207 := foldS hS197 (hk197) hS2207 hg2207
    have hZ207 : Z.Warmed39 (sS.setVm T207.vm).vm := State.Warmed39.trans (t := sS.setVm T197.vm) hZ197 hS2207.1
    have hown207 : (sS.setVm T207.vm).vm.findClass "com/example/ullr/ullr/files/ListedFileNamePinLaw" = some mM.cls := by rw [show (sS.setVm T207.vm).vm = T207.vm from rfl, hS2207.1.alike.findClass]; exact hown197
    have hk207 : T207.heap.size ≤ T207.heap.size := Nat.le_refl _
    replace X207 : Stand pP l eE room_1 (sS.setVm T207.vm) mM _ below meth cC T207 _ _ _ := X207
    obtain ⟨r_207, t2_207, k2_207, rfl, Nq207, Kq207, q207_0⟩ := hQ207
    have N207 := Fr.app N197 Nq207
    have CH208 : CHr Z own_EL sS.vm h0 T207.vm T207.heap := CH198.trans (CHl207)
    skip
    have K210 : Keep h0 T207.heap [] := K200.trans Kq207 all0
    let Ls211 : Array Slot := #[.val (.int p0), .val (.int p1), .val (.int p2), .val (.int p3), .val (.int p4), .val (.long p5), .second, .val (.int (2 : Int32)), .val (.int x0), .val (.int x1), .val (.int x2), .val (.int x3), .val (.ref b10), .val (.ref b157), .val (.ref b190), .val (.ref r_207), .unset]
    let Ls212 : Array Slot := #[.val (.int p0), .val (.int p1), .val (.int p2), .val (.int p3), .val (.int p4), .val (.long p5), .second, .val (.int (2 : Int32)), .val (.int x0), .val (.int x1), .val (.int x2), .val (.int x3), .val (.ref b10), .val (.ref b157), .val (.ref b190), .val (.ref r_207), .val (.int (-1 : Int32))]
    obtain ⟨T213, X213, e213, st213⟩ := own_to X207 (h := T207.heap) (g := (mkF mM 226 Ls212 [])) (g' := (mkF mM 241 #[.val (.int p0), .val (.int p1), .val (.int p2), .val (.int p3), .val (.int p4), .val (.long p5), .second, .val (.int (2 : Int32)), .val (.int x0), .val (.int x1), .val (.int x2), .val (.int x3), .val (.ref b10), .val (.ref b157), .val (.ref b190), .val (.ref r_207), .val (.int (own_lx ([x0, x1] : List Int32) (47 : Int32) (0 + 1)))] [])) (by
      have pre215 : ∀ tg, Steps pP.tables eE below (T207.setTop (mkF mM 235 Ls212 [(.int (47 : Int32)), (.int x0)])) tg → Steps pP.tables eE below (T207.setTop (mkF mM 226 Ls212 [])) tg := fun tg kg => (by
        refine XS.iload X207.here hx rfl (hb hby at_226) rfl ?_
        show Steps pP.tables eE below (T207.setTop (mkF mM 228 Ls212 [(.int (2 : Int32))])) _
        refine XS.ifNo X207.here hx rfl (hb hby at_228) rfl ((if0 _ _).trans (tlt (by decide : (0 : Int32) < (2 : Int32))).2.2.2) ?_
        show Steps pP.tables eE below (T207.setTop (mkF mM 231 Ls212 [])) _
        refine XS.iload X207.here hx rfl (hb hby at_231) rfl ?_
        show Steps pP.tables eE below (T207.setTop (mkF mM 233 Ls212 [(.int x0)])) _
        refine XS.bipush X207.here hx rfl (hb hby at_233) ?_
        exact kg)
      by_cases hc214 : x0 = (47 : Int32)
      · let Ls216 : Array Slot := #[.val (.int p0), .val (.int p1), .val (.int p2), .val (.int p3), .val (.int p4), .val (.long p5), .second, .val (.int (2 : Int32)), .val (.int x0), .val (.int x1), .val (.int x2), .val (.int x3), .val (.ref b10), .val (.ref b157), .val (.ref b190), .val (.ref r_207), .val (.int (0 : Int32))]
        refine ⟨T207, X207, rfl, fun tg kg => ?_⟩
        rw [(own_lxS ([x0, x1] : List Int32) (47 : Int32) 0).trans (if_pos hc214)] at kg
        refine pre215 tg ?_
        refine XS.icmpNo X207.here hx rfl (hb hby at_235) rfl (teq hc214).2 ?_
        show Steps pP.tables eE below (T207.setTop (mkF mM 238 Ls212 [])) _
        refine XS.iconst X207.here hx rfl (hb hby at_238) ?_
        show Steps pP.tables eE below (T207.setTop (mkF mM 239 Ls212 [(.int (0 : Int32))])) _
        refine XS.istore X207.here hx rfl (hb hby at_239) rfl (l' := Ls216) rfl ?_
        exact kg
      · refine ⟨T207, X207, rfl, fun tg kg => ?_⟩
        rw [(own_lxS ([x0, x1] : List Int32) (47 : Int32) 0).trans (if_neg hc214)] at kg
        refine pre215 tg ?_
        refine XS.icmpYes X207.here hx rfl (pc0 := 235) (pc' := 241) rfl (hb hby at_235) rfl (feq hc214).2 (by decide) (by decide) ?_
        exact kg)
    let Ls217 : Array Slot := #[.val (.int p0), .val (.int p1), .val (.int p2), .val (.int p3), .val (.int p4), .val (.long p5), .second, .val (.int (2 : Int32)), .val (.int x0), .val (.int x1), .val (.int x2), .val (.int x3), .val (.ref b10), .val (.ref b157), .val (.ref b190), .val (.ref r_207), .val (.int (own_lx ([x0, x1] : List Int32) (47 : Int32) (0 + 1)))]
    obtain ⟨T218, X218, e218, st218⟩ := own_to X213 (h := T207.heap) (g := (mkF mM 241 Ls217 [])) (g' := (mkF mM 257 #[.val (.int p0), .val (.int p1), .val (.int p2), .val (.int p3), .val (.int p4), .val (.long p5), .second, .val (.int (2 : Int32)), .val (.int x0), .val (.int x1), .val (.int x2), .val (.int x3), .val (.ref b10), .val (.ref b157), .val (.ref b190), .val (.ref r_207), .val (.int (own_lx ([x0, x1] : List Int32) (47 : Int32) (1 + 1)))] [])) (by
      have pre220 : ∀ tg, Steps pP.tables eE below (T213.setTop (mkF mM 251 Ls217 [(.int (47 : Int32)), (.int x1)])) tg → Steps pP.tables eE below (T213.setTop (mkF mM 241 Ls217 [])) tg := fun tg kg => (by
        refine XS.iload X213.here hx rfl (hb hby at_241) rfl ?_
        show Steps pP.tables eE below (T213.setTop (mkF mM 243 Ls217 [(.int (2 : Int32))])) _
        refine XS.iconst X213.here hx rfl (hb hby at_243) ?_
        show Steps pP.tables eE below (T213.setTop (mkF mM 244 Ls217 [(.int (1 : Int32)), (.int (2 : Int32))])) _
        refine XS.icmpNo X213.here hx rfl (hb hby at_244) rfl (tlt (by decide : (1 : Int32) < (2 : Int32))).2.2.2 ?_
        show Steps pP.tables eE below (T213.setTop (mkF mM 247 Ls217 [])) _
        refine XS.iload X213.here hx rfl (hb hby at_247) rfl ?_
        show Steps pP.tables eE below (T213.setTop (mkF mM 249 Ls217 [(.int x1)])) _
        refine XS.bipush X213.here hx rfl (hb hby at_249) ?_
        exact kg)
      by_cases hc219 : x1 = (47 : Int32)
      · let Ls221 : Array Slot := #[.val (.int p0), .val (.int p1), .val (.int p2), .val (.int p3), .val (.int p4), .val (.long p5), .second, .val (.int (2 : Int32)), .val (.int x0), .val (.int x1), .val (.int x2), .val (.int x3), .val (.ref b10), .val (.ref b157), .val (.ref b190), .val (.ref r_207), .val (.int (1 : Int32))]
        refine ⟨T213, X213, e213, fun tg kg => ?_⟩
        rw [(own_lxS ([x0, x1] : List Int32) (47 : Int32) 1).trans (if_pos hc219)] at kg
        refine pre220 tg ?_
        refine XS.icmpNo X213.here hx rfl (hb hby at_251) rfl (teq hc219).2 ?_
        show Steps pP.tables eE below (T213.setTop (mkF mM 254 Ls217 [])) _
        refine XS.iconst X213.here hx rfl (hb hby at_254) ?_
        show Steps pP.tables eE below (T213.setTop (mkF mM 255 Ls217 [(.int (1 : Int32))])) _
        refine XS.istore X213.here hx rfl (hb hby at_255) rfl (l' := Ls221) rfl ?_
        exact kg
      · refine ⟨T213, X213, e213, fun tg kg => ?_⟩
        rw [(own_lxS ([x0, x1] : List Int32) (47 : Int32) 1).trans (if_neg hc219)] at kg
        refine pre220 tg ?_
        refine XS.icmpYes X213.here hx rfl (pc0 := 251) (pc' := 257) rfl (hb hby at_251) rfl (feq hc219).2 (by decide) (by decide) ?_
        exact kg)
    let Ls222 : Array Slot := #[.val (.int p0), .val (.int p1), .val (.int p2), .val (.int p3), .val (.int p4), .val (.long p5), .second, .val (.int (2 : Int32)), .val (.int x0), .val (.int x1), .val (.int x2), .val (.int x3), .val (.ref b10), .val (.ref b157), .val (.ref b190), .val (.ref r_207), .val (.int (own_lx ([x0, x1] : List Int32) (47 : Int32) (1 + 1)))]
    have f223 := (f206.keep Kq207 all0)
    obtain ⟨cq224, kq224, q224a, q224b, q224c⟩ := isOf hZ207 e218 (q207_0).1
    obtain ⟨_, _, ⟨T224, L224, k224, n224⟩, -, X224, ⟨Lc224, hQ224, l224, y224, z224⟩, st224⟩ := X218.virtualBack hx (y := (⟨"java/lang/String", "length", "()I"⟩ : MethodName)) (z := (⟨"java/lang/String", "length", "()I"⟩ : MethodName)) hown207 (mvT hZ207 (w_103 hw)) (mvT hZ207 (w_54 hw)) (notFace_of_selects (args := #[]) (mvT hZ207 (w_56 hw))) (mvT hZ207 (w_56 hw)) (mvT hZ207 (w_55 hw)) (by decide) (own_len (W := 0) hZ207 hw (⟨(q207_0).1, (q207_0).2.1, (q207_0).2.2.1, (q207_0).2.2.2.1, (q207_0).2.2.2.2⟩ : own_Str Z T207.heap r_207 t2_207 k2_207 ([x0, x1].drop (own_ln [x0, x1] (47 : Int32) [x0, x1].length))) (Sta.ext (f223).2 S_COMPACT_STRINGS) hp1 (by decide) (by decide)) q224a q224c (g := (mkF mM 298 Ls222 [(.ref r_207)])) rfl (by rw [hml]; rfl) (Steps.refl _) (argsL := []) (rest := []) (lenOf pd_5 rfl) rfl (by show 2 * 0 + _ ≤ _; exact Nat.le_of_eq rfl) (hb hby at_298) (fun _ _ => ⟨rfl, e218, (by decide : 9 + 0 ≤ _), (by decide : 46 + 0 ≤ _)⟩)
    dsimp only [Pt.U, Pt.locs, Pt.cells, Pt.slots] at X224 l224 y224 z224 st224 hQ224
    subst l224 y224 z224
    obtain ⟨rfl, rfl, Kq224⟩ := hQ224
    try rw [List.append_nil] at X224
    have f225 := ((((((((V32.ext E157).ext E162).other W167 (Nat.ne_of_lt (Nat.lt_of_lt_of_le (Nat.lt_of_lt_of_le (Nat.lt_of_lt_of_le (Nat.lt_of_lt_of_le (Nat.lt_of_lt_of_le (Nat.lt_of_lt_of_le (V10).lt (Nat.le_of_eq W14.size.symm)) (Nat.le_of_eq W20.size.symm)) (Nat.le_of_eq W26.size.symm)) (Nat.le_of_eq W32.size.symm)) E157.1) (Nat.le_of_eq g162.symm)))).other W173 (Nat.ne_of_lt (Nat.lt_of_lt_of_le (Nat.lt_of_lt_of_le (Nat.lt_of_lt_of_le (Nat.lt_of_lt_of_le (Nat.lt_of_lt_of_le (Nat.lt_of_lt_of_le (V10).lt (Nat.le_of_eq W14.size.symm)) (Nat.le_of_eq W20.size.symm)) (Nat.le_of_eq W26.size.symm)) (Nat.le_of_eq W32.size.symm)) E157.1) (Nat.le_of_eq g162.symm)))).keep Kq183 (ninS (Nat.ne_of_lt (Nat.lt_of_lt_of_le (Nat.lt_of_lt_of_le (Nat.lt_of_lt_of_le (Nat.lt_of_lt_of_le (Nat.lt_of_lt_of_le (V10).lt (Nat.le_of_eq W14.size.symm)) (Nat.le_of_eq W20.size.symm)) (Nat.le_of_eq W26.size.symm)) (Nat.le_of_eq W32.size.symm)) (Nat.le_of_eq g157.symm))) nin0)).ext E190).keep Kq197 (ninS (Nat.ne_of_lt (Nat.lt_of_lt_of_le (Nat.lt_of_lt_of_le (Nat.lt_of_lt_of_le (Nat.lt_of_lt_of_le (Nat.lt_of_lt_of_le (Nat.lt_of_lt_of_le (Nat.lt_of_lt_of_le (Nat.lt_of_lt_of_le (Nat.lt_of_lt_of_le (Nat.lt_of_lt_of_le (V10).lt (Nat.le_of_eq W14.size.symm)) (Nat.le_of_eq W20.size.symm)) (Nat.le_of_eq W26.size.symm)) (Nat.le_of_eq W32.size.symm)) E157.1) E162.1) (Nat.le_of_eq W167.size.symm)) (Nat.le_of_eq W173.size.symm)) Kq183.1) (Nat.le_of_eq g190.symm))) nin0)).keep Kq207 nin0)
    obtain ⟨_, _, ⟨T226, L226, k226, n226⟩, -, X226, ⟨Lc226, hQ226, l226, y226, z226⟩, st226⟩ := Jvm.LawKit.callS X224 hx (y := (⟨"com/example/ullr/ullr/files/ListedFileNamePinLaw", "at", "(Ljava/lang/String;[CIII)Z"⟩ : MethodName)) hown207 (mvT hZ207 (w_104 hw)) (mvT hZ207 (w_105 hw)) (mvT hZ207 (w_2 hw)) (mvT hZ207 (w_106 hw)) (by decide) (backOf (W := 0) (rm_att l Z a0 hw [] r_207 t2_207 k2_207 ([x0, x1]) (own_ln ([x0, x1] : List Int32) (47 : Int32) ([x0, x1] : List Int32).length) b10 k10 ([x0, x1, x2, x3]) (own_lx ([x0, x1] : List Int32) (47 : Int32) (1 + 1)) 0 zc fm T207.heap n0 f223 (⟨(q207_0).1, (q207_0).2.1, (q207_0).2.2.1, (q207_0).2.2.2.1, (q207_0).2.2.2.2⟩ : own_Str Z T207.heap r_207 t2_207 k2_207 ([x0, x1].drop (own_ln [x0, x1] (47 : Int32) [x0, x1].length))) f225 (own_lxp ([x0, x1] : List Int32) (47 : Int32) 2 : (own_lx ([x0, x1] : List Int32) (47 : Int32) (1 + 1)) = own_pr (own_ln ([x0, x1] : List Int32) (47 : Int32) ([x0, x1] : List Int32).length)) (⟨own_ln_le _ _ _, Nat.le_of_ble_eq_true rfl, rfl⟩ : (own_ln ([x0, x1] : List Int32) (47 : Int32) ([x0, x1] : List Int32).length) ≤ [x0, x1].length ∧ [x0, x1].length ≤ 8 ∧ [x0, x1, x2, x3].length = 4) (by decide : 0 < 4) (fun _ => rfl : 0 < [x0, x1].length → [x0, x1, x2, x3].getD 0 0 = [x0, x1].getD 0 0) S_COMPACT_STRINGS hp1 S_SIOOBE_FORMATTER hp3) hZ207 (w_106 hw) (w_2 hw) (by decide) (by decide)) (g := (mkF mM 322 Ls222 [(.int (0 : Int32)), (.int (2 : Int32)), (.int (own_lx ([x0, x1] : List Int32) (47 : Int32) (1 + 1))), (.ref b10), (.ref r_207)])) rfl (by rw [hml]; rfl) (argsL := [(.ref r_207), (.ref b10), (.int (own_lx ([x0, x1] : List Int32) (47 : Int32) (1 + 1))), (.int (2 : Int32)), (.int (0 : Int32))]) (rest := []) (lenOf pd_20 rfl) rfl (by show 2 * 0 + _ ≤ _; exact Nat.le_of_eq rfl) (hb hby at_322) (fun _ _ => ⟨rfl, Kq224, (by decide : 9 + 0 ≤ _), (by decide : 46 + 0 ≤ _)⟩)
    dsimp only [Pt.U, Pt.locs, Pt.cells, Pt.slots] at X226 l226 y226 z226 st226 hQ226
    subst l226 y226 z226
    obtain ⟨rfl, rfl, Kq226⟩ := hQ226
    try rw [List.append_nil] at X226
    obtain ⟨_, _, ⟨T227, L227, k227, n227⟩, -, X227, ⟨Lc227, hQ227, l227, y227, z227⟩, st227⟩ := Jvm.LawKit.callS X226 hx (y := (⟨"com/example/ullr/ullr/files/ListedFileNamePinLaw", "at", "(Ljava/lang/String;[CIII)Z"⟩ : MethodName)) hown207 (mvT hZ207 (w_104 hw)) (mvT hZ207 (w_105 hw)) (mvT hZ207 (w_2 hw)) (mvT hZ207 (w_106 hw)) (by decide) (backOf (W := 0) (rm_att l Z a0 hw [] r_207 t2_207 k2_207 ([x0, x1]) (own_ln ([x0, x1] : List Int32) (47 : Int32) ([x0, x1] : List Int32).length) b10 k10 ([x0, x1, x2, x3]) (own_lx ([x0, x1] : List Int32) (47 : Int32) (1 + 1)) 1 zc fm T207.heap n0 f223 (⟨(q207_0).1, (q207_0).2.1, (q207_0).2.2.1, (q207_0).2.2.2.1, (q207_0).2.2.2.2⟩ : own_Str Z T207.heap r_207 t2_207 k2_207 ([x0, x1].drop (own_ln [x0, x1] (47 : Int32) [x0, x1].length))) f225 (own_lxp ([x0, x1] : List Int32) (47 : Int32) 2 : (own_lx ([x0, x1] : List Int32) (47 : Int32) (1 + 1)) = own_pr (own_ln ([x0, x1] : List Int32) (47 : Int32) ([x0, x1] : List Int32).length)) (⟨own_ln_le _ _ _, Nat.le_of_ble_eq_true rfl, rfl⟩ : (own_ln ([x0, x1] : List Int32) (47 : Int32) ([x0, x1] : List Int32).length) ≤ [x0, x1].length ∧ [x0, x1].length ≤ 8 ∧ [x0, x1, x2, x3].length = 4) (by decide : 1 < 4) (fun _ => rfl : 1 < [x0, x1].length → [x0, x1, x2, x3].getD 1 0 = [x0, x1].getD 1 0) S_COMPACT_STRINGS hp1 S_SIOOBE_FORMATTER hp3) hZ207 (w_106 hw) (w_2 hw) (by decide) (by decide)) (g := (mkF mM 337 Ls222 [(.int (1 : Int32)), (.int (2 : Int32)), (.int (own_lx ([x0, x1] : List Int32) (47 : Int32) (1 + 1))), (.ref b10), (.ref r_207)])) rfl (by rw [hml]; rfl) (argsL := [(.ref r_207), (.ref b10), (.int (own_lx ([x0, x1] : List Int32) (47 : Int32) (1 + 1))), (.int (2 : Int32)), (.int (1 : Int32))]) (rest := []) (lenOf pd_20 rfl) rfl (by show 2 * 0 + _ ≤ _; exact Nat.le_of_eq rfl) (hb hby at_337) (fun _ _ => ⟨rfl, Kq226, (by decide : 9 + 0 ≤ _), (by decide : 46 + 0 ≤ _)⟩)
    dsimp only [Pt.U, Pt.locs, Pt.cells, Pt.slots] at X227 l227 y227 z227 st227 hQ227
    subst l227 y227 z227
    obtain ⟨rfl, rfl, Kq227⟩ := hQ227
    try rw [List.append_nil] at X227
    obtain ⟨_, _, ⟨T228, L228, k228, n228⟩, -, X228, ⟨Lc228, hQ228, l228, y228, z228⟩, st228⟩ := Jvm.LawKit.callS X227 hx (y := (⟨"com/example/ullr/ullr/files/ListedFileNamePinLaw", "at", "(Ljava/lang/String;[CIII)Z"⟩ : MethodName)) hown207 (mvT hZ207 (w_104 hw)) (mvT hZ207 (w_105 hw)) (mvT hZ207 (w_2 hw)) (mvT hZ207 (w_106 hw)) (by decide) (backOf (W := 0) (rm_att l Z a0 hw [] r_207 t2_207 k2_207 ([x0, x1]) (own_ln ([x0, x1] : List Int32) (47 : Int32) ([x0, x1] : List Int32).length) b10 k10 ([x0, x1, x2, x3]) (own_lx ([x0, x1] : List Int32) (47 : Int32) (1 + 1)) 2 zc fm T207.heap n0 f223 (⟨(q207_0).1, (q207_0).2.1, (q207_0).2.2.1, (q207_0).2.2.2.1, (q207_0).2.2.2.2⟩ : own_Str Z T207.heap r_207 t2_207 k2_207 ([x0, x1].drop (own_ln [x0, x1] (47 : Int32) [x0, x1].length))) f225 (own_lxp ([x0, x1] : List Int32) (47 : Int32) 2 : (own_lx ([x0, x1] : List Int32) (47 : Int32) (1 + 1)) = own_pr (own_ln ([x0, x1] : List Int32) (47 : Int32) ([x0, x1] : List Int32).length)) (⟨own_ln_le _ _ _, Nat.le_of_ble_eq_true rfl, rfl⟩ : (own_ln ([x0, x1] : List Int32) (47 : Int32) ([x0, x1] : List Int32).length) ≤ [x0, x1].length ∧ [x0, x1].length ≤ 8 ∧ [x0, x1, x2, x3].length = 4) (by decide : 2 < 4) (fun q => absurd q (Nat.not_lt_of_ge (Nat.le_of_ble_eq_true rfl)) : 2 < [x0, x1].length → [x0, x1, x2, x3].getD 2 0 = [x0, x1].getD 2 0) S_COMPACT_STRINGS hp1 S_SIOOBE_FORMATTER hp3) hZ207 (w_106 hw) (w_2 hw) (by decide) (by decide)) (g := (mkF mM 352 Ls222 [(.int (2 : Int32)), (.int (2 : Int32)), (.int (own_lx ([x0, x1] : List Int32) (47 : Int32) (1 + 1))), (.ref b10), (.ref r_207)])) rfl (by rw [hml]; rfl) (argsL := [(.ref r_207), (.ref b10), (.int (own_lx ([x0, x1] : List Int32) (47 : Int32) (1 + 1))), (.int (2 : Int32)), (.int (2 : Int32))]) (rest := []) (lenOf pd_20 rfl) rfl (by show 2 * 0 + _ ≤ _; exact Nat.le_of_eq rfl) (hb hby at_352) (fun _ _ => ⟨rfl, Kq227, (by decide : 9 + 0 ≤ _), (by decide : 46 + 0 ≤ _)⟩)
    dsimp only [Pt.U, Pt.locs, Pt.cells, Pt.slots] at X228 l228 y228 z228 st228 hQ228
    subst l228 y228 z228
    obtain ⟨rfl, rfl, Kq228⟩ := hQ228
    try rw [List.append_nil] at X228
    obtain ⟨_, _, ⟨T229, L229, k229, n229⟩, -, X229, ⟨Lc229, hQ229, l229, y229, z229⟩, st229⟩ := Jvm.LawKit.callS X228 hx (y := (⟨"com/example/ullr/ullr/files/ListedFileNamePinLaw", "at", "(Ljava/lang/String;[CIII)Z"⟩ : MethodName)) hown207 (mvT hZ207 (w_104 hw)) (mvT hZ207 (w_105 hw)) (mvT hZ207 (w_2 hw)) (mvT hZ207 (w_106 hw)) (by decide) (backOf (W := 0) (rm_att l Z a0 hw [] r_207 t2_207 k2_207 ([x0, x1]) (own_ln ([x0, x1] : List Int32) (47 : Int32) ([x0, x1] : List Int32).length) b10 k10 ([x0, x1, x2, x3]) (own_lx ([x0, x1] : List Int32) (47 : Int32) (1 + 1)) 3 zc fm T207.heap n0 f223 (⟨(q207_0).1, (q207_0).2.1, (q207_0).2.2.1, (q207_0).2.2.2.1, (q207_0).2.2.2.2⟩ : own_Str Z T207.heap r_207 t2_207 k2_207 ([x0, x1].drop (own_ln [x0, x1] (47 : Int32) [x0, x1].length))) f225 (own_lxp ([x0, x1] : List Int32) (47 : Int32) 2 : (own_lx ([x0, x1] : List Int32) (47 : Int32) (1 + 1)) = own_pr (own_ln ([x0, x1] : List Int32) (47 : Int32) ([x0, x1] : List Int32).length)) (⟨own_ln_le _ _ _, Nat.le_of_ble_eq_true rfl, rfl⟩ : (own_ln ([x0, x1] : List Int32) (47 : Int32) ([x0, x1] : List Int32).length) ≤ [x0, x1].length ∧ [x0, x1].length ≤ 8 ∧ [x0, x1, x2, x3].length = 4) (by decide : 3 < 4) (fun q => absurd q (Nat.not_lt_of_ge (Nat.le_of_ble_eq_true rfl)) : 3 < [x0, x1].length → [x0, x1, x2, x3].getD 3 0 = [x0, x1].getD 3 0) S_COMPACT_STRINGS hp1 S_SIOOBE_FORMATTER hp3) hZ207 (w_106 hw) (w_2 hw) (by decide) (by decide)) (g := (mkF mM 367 Ls222 [(.int (3 : Int32)), (.int (2 : Int32)), (.int (own_lx ([x0, x1] : List Int32) (47 : Int32) (1 + 1))), (.ref b10), (.ref r_207)])) rfl (by rw [hml]; rfl) (argsL := [(.ref r_207), (.ref b10), (.int (own_lx ([x0, x1] : List Int32) (47 : Int32) (1 + 1))), (.int (2 : Int32)), (.int (3 : Int32))]) (rest := []) (lenOf pd_20 rfl) rfl (by show 2 * 0 + _ ≤ _; exact Nat.le_of_eq rfl) (hb hby at_367) (fun _ _ => ⟨rfl, Kq228, (by decide : 9 + 0 ≤ _), (by decide : 46 + 0 ≤ _)⟩)
    dsimp only [Pt.U, Pt.locs, Pt.cells, Pt.slots] at X229 l229 y229 z229 st229 hQ229
    subst l229 y229 z229
    obtain ⟨rfl, rfl, Kq229⟩ := hQ229
    try rw [List.append_nil] at X229
    obtain ⟨fs, hr, hrun, hended, hR1, hR2, hR3, hR4⟩ := Stand.leaveW (s := sS) (vm₁ := T207.vm) X229 hS207 (by rw [Kq229]; exact hk207) (v := some (.int (1 : Int32))) (fun h => by rw [Bd.returns] at h; cases h)
    refine ⟨_, _, pre39 _ ?_, hrun, hended, _, _, rfl, ?_, ?_, hR1, hR2, hR3, hR4.mono (by decide) (by decide)⟩
    · refine XS.iload X32.here hx rfl (hb hby at_58) rfl ?_
      show Steps pP.tables eE below (T32.setTop (mkF mM 60 Ls156 [(.int (2 : Int32))])) _
      refine XS.ifYes X32.here hx rfl (pc0 := 60) (pc' := 78) rfl (hb hby at_60) rfl ((if0 _ _).trans (feq (by decide : ¬ ((2 : Int32) = (0 : Int32)))).2) (by decide) (by decide) ?_
      show Steps pP.tables eE below (T32.setTop (mkF mM 78 Ls156 [])) _
      refine XS.iload X32.here hx rfl (hb hby at_78) rfl ?_
      show Steps pP.tables eE below (T32.setTop (mkF mM 80 Ls156 [(.int (2 : Int32))])) _
      refine XS.iconst X32.here hx rfl (hb hby at_80) ?_
      show Steps pP.tables eE below (T32.setTop (mkF mM 81 Ls156 [(.int (1 : Int32)), (.int (2 : Int32))])) _
      refine XS.icmpYes X32.here hx rfl (pc0 := 81) (pc' := 104) rfl (hb hby at_81) rfl (feq (by decide : ¬ ((2 : Int32) = (1 : Int32)))).2 (by decide) (by decide) ?_
      show Steps pP.tables eE below (T32.setTop (mkF mM 104 Ls156 [])) _
      refine XS.iload X32.here hx rfl (hb hby at_104) rfl ?_
      show Steps pP.tables eE below (T32.setTop (mkF mM 106 Ls156 [(.int (2 : Int32))])) _
      refine XS.iconst X32.here hx rfl (hb hby at_106) ?_
      show Steps pP.tables eE below (T32.setTop (mkF mM 107 Ls156 [(.int (2 : Int32)), (.int (2 : Int32))])) _
      refine XS.icmpNo X32.here hx rfl (hb hby at_107) rfl (teq (by decide : (2 : Int32) = (2 : Int32))).2 ?_
      show Steps pP.tables eE below (T32.setTop (mkF mM 110 Ls156 [])) _
      refine st157 _ ?_
      show Steps pP.tables eE below (T157.setTop (mkF mM 113 Ls156 [(.ref b157)])) _
      refine XS.dup X157.here hx rfl (hb hby at_113) rfl rfl ?_
      show Steps pP.tables eE below (T157.setTop (mkF mM 114 Ls156 [(.ref b157), (.ref b157)])) _
      refine XS.iconst X157.here hx rfl (hb hby at_114) ?_
      show Steps pP.tables eE below (T157.setTop (mkF mM 115 Ls156 [(.int (2 : Int32)), (.ref b157), (.ref b157)])) _
      refine st162 _ ?_
      show Steps pP.tables eE below (T162.setTop (mkF mM 117 Ls156 [(.ref b162), (.ref b157), (.ref b157)])) _
      refine XS.dup X162.here hx rfl (hb hby at_117) rfl rfl ?_
      show Steps pP.tables eE below (T162.setTop (mkF mM 118 Ls156 [(.ref b162), (.ref b162), (.ref b157), (.ref b157)])) _
      refine XS.iconst X162.here hx rfl (hb hby at_118) ?_
      show Steps pP.tables eE below (T162.setTop (mkF mM 119 Ls156 [(.int (0 : Int32)), (.ref b162), (.ref b162), (.ref b157), (.ref b157)])) _
      refine XS.iload X162.here hx rfl (hb hby at_119) rfl ?_
      show Steps pP.tables eE below (T162.setTop (mkF mM 121 Ls156 [(.int x0), (.int (0 : Int32)), (.ref b162), (.ref b162), (.ref b157), (.ref b157)])) _
      refine st167 _ ?_
      show Steps pP.tables eE below (T167.setTop (mkF mM 122 Ls156 [(.ref b162), (.ref b157), (.ref b157)])) _
      refine XS.dup X167.here hx rfl (hb hby at_122) rfl rfl ?_
      show Steps pP.tables eE below (T167.setTop (mkF mM 123 Ls156 [(.ref b162), (.ref b162), (.ref b157), (.ref b157)])) _
      refine XS.iconst X167.here hx rfl (hb hby at_123) ?_
      show Steps pP.tables eE below (T167.setTop (mkF mM 124 Ls156 [(.int (1 : Int32)), (.ref b162), (.ref b162), (.ref b157), (.ref b157)])) _
      refine XS.iload X167.here hx rfl (hb hby at_124) rfl ?_
      show Steps pP.tables eE below (T167.setTop (mkF mM 126 Ls156 [(.int x1), (.int (1 : Int32)), (.ref b162), (.ref b162), (.ref b157), (.ref b157)])) _
      refine st173 _ ?_
      show Steps pP.tables eE below (T173.setTop (mkF mM 127 Ls156 [(.ref b162), (.ref b157), (.ref b157)])) _
      refine st183.trans ?_
      show Steps pP.tables eE below (T183.setTop (mkF mM 130 Ls156 [(.ref b157)])) _
      refine XS.astore X183.here hx rfl (hb hby at_130) rfl rfl (l' := Ls189) rfl ?_
      show Steps pP.tables eE below (T183.setTop (mkF mM 132 Ls189 [])) _
      refine XS.goto X183.here hx rfl (pc0 := 132) (pc' := 203) rfl (hb hby at_132) (by decide) (by decide) ?_
      show Steps pP.tables eE below (T183.setTop (mkF mM 203 Ls189 [])) _
      refine st190 _ ?_
      show Steps pP.tables eE below (T190.setTop (mkF mM 206 Ls189 [(.ref b190)])) _
      refine XS.dup X190.here hx rfl (hb hby at_206) rfl rfl ?_
      show Steps pP.tables eE below (T190.setTop (mkF mM 207 Ls189 [(.ref b190), (.ref b190)])) _
      refine XS.aload X190.here hx rfl (hb hby at_207) rfl rfl ?_
      show Steps pP.tables eE below (T190.setTop (mkF mM 209 Ls189 [(.ref b157), (.ref b190), (.ref b190)])) _
      refine XS.lload X190.here hx rfl (hb hby at_209) rfl ?_
      show Steps pP.tables eE below (T190.setTop (mkF mM 211 Ls189 [(.long p5), (.ref b157), (.ref b190), (.ref b190)])) _
      refine st197.trans ?_
      show Steps pP.tables eE below (T197.setTop (mkF mM 214 Ls189 [(.ref b190)])) _
      refine XS.astore X197.here hx rfl (hb hby at_214) rfl rfl (l' := Ls201) rfl ?_
      show Steps pP.tables eE below (T197.setTop (mkF mM 216 Ls201 [])) _
      refine XS.aload X197.here hx rfl (hb hby at_216) rfl rfl ?_
      show Steps pP.tables eE below (T197.setTop (mkF mM 218 Ls201 [(.ref b190)])) _
      refine st207.trans ?_
      show Steps pP.tables eE below (T207.setTop (mkF mM 221 Ls201 [(.ref r_207)])) _
      refine XS.astore X207.here hx rfl (hb hby at_221) rfl rfl (l' := Ls211) rfl ?_
      show Steps pP.tables eE below (T207.setTop (mkF mM 223 Ls211 [])) _
      refine XS.iconst X207.here hx rfl (hb hby at_223) ?_
      show Steps pP.tables eE below (T207.setTop (mkF mM 224 Ls211 [(.int (-1 : Int32))])) _
      refine XS.istore X207.here hx rfl (hb hby at_224) rfl (l' := Ls212) rfl ?_
      show Steps pP.tables eE below (T207.setTop (mkF mM 226 Ls212 [])) _
      refine st213 _ ?_
      show Steps pP.tables eE below (T213.setTop (mkF mM 241 Ls217 [])) _
      refine st218 _ ?_
      show Steps pP.tables eE below (T218.setTop (mkF mM 257 Ls222 [])) _
      refine XS.iload X218.here hx rfl (hb hby at_257) rfl ?_
      show Steps pP.tables eE below (T218.setTop (mkF mM 259 Ls222 [(.int (2 : Int32))])) _
      refine XS.iconst X218.here hx rfl (hb hby at_259) ?_
      show Steps pP.tables eE below (T218.setTop (mkF mM 260 Ls222 [(.int (2 : Int32)), (.int (2 : Int32))])) _
      refine XS.icmpYes X218.here hx rfl (pc0 := 260) (pc' := 273) rfl (hb hby at_260) rfl (flt (by decide : ¬ ((2 : Int32) < (2 : Int32)))).2.2.2 (by decide) (by decide) ?_
      show Steps pP.tables eE below (T218.setTop (mkF mM 273 Ls222 [])) _
      refine XS.iload X218.here hx rfl (hb hby at_273) rfl ?_
      show Steps pP.tables eE below (T218.setTop (mkF mM 275 Ls222 [(.int (2 : Int32))])) _
      refine XS.iconst X218.here hx rfl (hb hby at_275) ?_
      show Steps pP.tables eE below (T218.setTop (mkF mM 276 Ls222 [(.int (3 : Int32)), (.int (2 : Int32))])) _
      refine XS.icmpYes X218.here hx rfl (pc0 := 276) (pc' := 289) rfl (hb hby at_276) rfl (flt (by decide : ¬ ((3 : Int32) < (2 : Int32)))).2.2.2 (by decide) (by decide) ?_
      show Steps pP.tables eE below (T218.setTop (mkF mM 289 Ls222 [])) _
      refine XS.aload X218.here hx rfl (hb hby at_289) rfl rfl ?_
      show Steps pP.tables eE below (T218.setTop (mkF mM 291 Ls222 [(.ref r_207)])) _
      refine XS.ifnonnullYes X218.here hx rfl (pc0 := 291) (pc' := 296) rfl (hb hby at_291) rfl (by decide) (by decide) ?_
      show Steps pP.tables eE below (T218.setTop (mkF mM 296 Ls222 [])) _
      refine XS.aload X218.here hx rfl (hb hby at_296) rfl rfl ?_
      show Steps pP.tables eE below (T218.setTop (mkF mM 298 Ls222 [(.ref r_207)])) _
      refine st224.trans ?_
      show Steps pP.tables eE below (T224.setTop (mkF mM 301 Ls222 [(.int (Int32.ofNat (([x0, x1].drop (own_ln [x0, x1] (47 : Int32) [x0, x1].length))).length))])) _
      refine XS.iload X224.here hx rfl (hb hby at_301) rfl ?_
      show Steps pP.tables eE below (T224.setTop (mkF mM 303 Ls222 [(.int (2 : Int32)), (.int (Int32.ofNat (([x0, x1].drop (own_ln [x0, x1] (47 : Int32) [x0, x1].length))).length))])) _
      refine XS.iload X224.here hx rfl (hb hby at_303) rfl ?_
      show Steps pP.tables eE below (T224.setTop (mkF mM 305 Ls222 [(.int (own_lx ([x0, x1] : List Int32) (47 : Int32) (1 + 1))), (.int (2 : Int32)), (.int (Int32.ofNat (([x0, x1].drop (own_ln [x0, x1] (47 : Int32) [x0, x1].length))).length))])) _
      refine XS.isub X224.here hx rfl (hb hby at_305) rfl ?_
      show Steps pP.tables eE below (T224.setTop (mkF mM 306 Ls222 [(.int ((2 : Int32) - (own_lx ([x0, x1] : List Int32) (47 : Int32) (1 + 1)))), (.int (Int32.ofNat (([x0, x1].drop (own_ln [x0, x1] (47 : Int32) [x0, x1].length))).length))])) _
      refine XS.iconst X224.here hx rfl (hb hby at_306) ?_
      show Steps pP.tables eE below (T224.setTop (mkF mM 307 Ls222 [(.int (1 : Int32)), (.int ((2 : Int32) - (own_lx ([x0, x1] : List Int32) (47 : Int32) (1 + 1)))), (.int (Int32.ofNat (([x0, x1].drop (own_ln [x0, x1] (47 : Int32) [x0, x1].length))).length))])) _
      refine XS.isub X224.here hx rfl (hb hby at_307) rfl ?_
      show Steps pP.tables eE below (T224.setTop (mkF mM 308 Ls222 [(.int (((2 : Int32) - (own_lx ([x0, x1] : List Int32) (47 : Int32) (1 + 1))) - (1 : Int32))), (.int (Int32.ofNat (([x0, x1].drop (own_ln [x0, x1] (47 : Int32) [x0, x1].length))).length))])) _
      refine XS.icmpYes X224.here hx rfl (pc0 := 308) (pc' := 313) rfl (hb hby at_308) rfl (teq (own_lenk ([x0, x1] : List Int32) (47 : Int32) (Nat.le_of_ble_eq_true rfl))).1 (by decide) (by decide) ?_
      show Steps pP.tables eE below (T224.setTop (mkF mM 313 Ls222 [])) _
      refine XS.aload X224.here hx rfl (hb hby at_313) rfl rfl ?_
      show Steps pP.tables eE below (T224.setTop (mkF mM 315 Ls222 [(.ref r_207)])) _
      refine XS.aload X224.here hx rfl (hb hby at_315) rfl rfl ?_
      show Steps pP.tables eE below (T224.setTop (mkF mM 317 Ls222 [(.ref b10), (.ref r_207)])) _
      refine XS.iload X224.here hx rfl (hb hby at_317) rfl ?_
      show Steps pP.tables eE below (T224.setTop (mkF mM 319 Ls222 [(.int (own_lx ([x0, x1] : List Int32) (47 : Int32) (1 + 1))), (.ref b10), (.ref r_207)])) _
      refine XS.iload X224.here hx rfl (hb hby at_319) rfl ?_
      show Steps pP.tables eE below (T224.setTop (mkF mM 321 Ls222 [(.int (2 : Int32)), (.int (own_lx ([x0, x1] : List Int32) (47 : Int32) (1 + 1))), (.ref b10), (.ref r_207)])) _
      refine XS.iconst X224.here hx rfl (hb hby at_321) ?_
      show Steps pP.tables eE below (T224.setTop (mkF mM 322 Ls222 [(.int (0 : Int32)), (.int (2 : Int32)), (.int (own_lx ([x0, x1] : List Int32) (47 : Int32) (1 + 1))), (.ref b10), (.ref r_207)])) _
      refine st226 _ ?_
      show Steps pP.tables eE below (T226.setTop (mkF mM 325 Ls222 [(.int (1 : Int32))])) _
      refine XS.ifNo X226.here hx rfl (hb hby at_325) rfl ((if0 _ _).trans (feq (by decide : ¬ ((1 : Int32) = (0 : Int32)))).1) ?_
      show Steps pP.tables eE below (T226.setTop (mkF mM 328 Ls222 [])) _
      refine XS.aload X226.here hx rfl (hb hby at_328) rfl rfl ?_
      show Steps pP.tables eE below (T226.setTop (mkF mM 330 Ls222 [(.ref r_207)])) _
      refine XS.aload X226.here hx rfl (hb hby at_330) rfl rfl ?_
      show Steps pP.tables eE below (T226.setTop (mkF mM 332 Ls222 [(.ref b10), (.ref r_207)])) _
      refine XS.iload X226.here hx rfl (hb hby at_332) rfl ?_
      show Steps pP.tables eE below (T226.setTop (mkF mM 334 Ls222 [(.int (own_lx ([x0, x1] : List Int32) (47 : Int32) (1 + 1))), (.ref b10), (.ref r_207)])) _
      refine XS.iload X226.here hx rfl (hb hby at_334) rfl ?_
      show Steps pP.tables eE below (T226.setTop (mkF mM 336 Ls222 [(.int (2 : Int32)), (.int (own_lx ([x0, x1] : List Int32) (47 : Int32) (1 + 1))), (.ref b10), (.ref r_207)])) _
      refine XS.iconst X226.here hx rfl (hb hby at_336) ?_
      show Steps pP.tables eE below (T226.setTop (mkF mM 337 Ls222 [(.int (1 : Int32)), (.int (2 : Int32)), (.int (own_lx ([x0, x1] : List Int32) (47 : Int32) (1 + 1))), (.ref b10), (.ref r_207)])) _
      refine st227 _ ?_
      show Steps pP.tables eE below (T227.setTop (mkF mM 340 Ls222 [(.int (1 : Int32))])) _
      refine XS.ifNo X227.here hx rfl (hb hby at_340) rfl ((if0 _ _).trans (feq (by decide : ¬ ((1 : Int32) = (0 : Int32)))).1) ?_
      show Steps pP.tables eE below (T227.setTop (mkF mM 343 Ls222 [])) _
      refine XS.aload X227.here hx rfl (hb hby at_343) rfl rfl ?_
      show Steps pP.tables eE below (T227.setTop (mkF mM 345 Ls222 [(.ref r_207)])) _
      refine XS.aload X227.here hx rfl (hb hby at_345) rfl rfl ?_
      show Steps pP.tables eE below (T227.setTop (mkF mM 347 Ls222 [(.ref b10), (.ref r_207)])) _
      refine XS.iload X227.here hx rfl (hb hby at_347) rfl ?_
      show Steps pP.tables eE below (T227.setTop (mkF mM 349 Ls222 [(.int (own_lx ([x0, x1] : List Int32) (47 : Int32) (1 + 1))), (.ref b10), (.ref r_207)])) _
      refine XS.iload X227.here hx rfl (hb hby at_349) rfl ?_
      show Steps pP.tables eE below (T227.setTop (mkF mM 351 Ls222 [(.int (2 : Int32)), (.int (own_lx ([x0, x1] : List Int32) (47 : Int32) (1 + 1))), (.ref b10), (.ref r_207)])) _
      refine XS.iconst X227.here hx rfl (hb hby at_351) ?_
      show Steps pP.tables eE below (T227.setTop (mkF mM 352 Ls222 [(.int (2 : Int32)), (.int (2 : Int32)), (.int (own_lx ([x0, x1] : List Int32) (47 : Int32) (1 + 1))), (.ref b10), (.ref r_207)])) _
      refine st228 _ ?_
      show Steps pP.tables eE below (T228.setTop (mkF mM 355 Ls222 [(.int (1 : Int32))])) _
      refine XS.ifNo X228.here hx rfl (hb hby at_355) rfl ((if0 _ _).trans (feq (by decide : ¬ ((1 : Int32) = (0 : Int32)))).1) ?_
      show Steps pP.tables eE below (T228.setTop (mkF mM 358 Ls222 [])) _
      refine XS.aload X228.here hx rfl (hb hby at_358) rfl rfl ?_
      show Steps pP.tables eE below (T228.setTop (mkF mM 360 Ls222 [(.ref r_207)])) _
      refine XS.aload X228.here hx rfl (hb hby at_360) rfl rfl ?_
      show Steps pP.tables eE below (T228.setTop (mkF mM 362 Ls222 [(.ref b10), (.ref r_207)])) _
      refine XS.iload X228.here hx rfl (hb hby at_362) rfl ?_
      show Steps pP.tables eE below (T228.setTop (mkF mM 364 Ls222 [(.int (own_lx ([x0, x1] : List Int32) (47 : Int32) (1 + 1))), (.ref b10), (.ref r_207)])) _
      refine XS.iload X228.here hx rfl (hb hby at_364) rfl ?_
      show Steps pP.tables eE below (T228.setTop (mkF mM 366 Ls222 [(.int (2 : Int32)), (.int (own_lx ([x0, x1] : List Int32) (47 : Int32) (1 + 1))), (.ref b10), (.ref r_207)])) _
      refine XS.iconst X228.here hx rfl (hb hby at_366) ?_
      show Steps pP.tables eE below (T228.setTop (mkF mM 367 Ls222 [(.int (3 : Int32)), (.int (2 : Int32)), (.int (own_lx ([x0, x1] : List Int32) (47 : Int32) (1 + 1))), (.ref b10), (.ref r_207)])) _
      refine st229 _ ?_
      show Steps pP.tables eE below (T229.setTop (mkF mM 370 Ls222 [(.int (1 : Int32))])) _
      refine XS.ifNo X229.here hx rfl (hb hby at_370) rfl ((if0 _ _).trans (feq (by decide : ¬ ((1 : Int32) = (0 : Int32)))).1) ?_
      show Steps pP.tables eE below (T229.setTop (mkF mM 373 Ls222 [])) _
      refine XS.iconst X229.here hx rfl (hb hby at_373) ?_
      show Steps pP.tables eE below (T229.setTop (mkF mM 374 Ls222 [(.int (1 : Int32))])) _
      refine XS.goto X229.here hx rfl (pc0 := 374) (pc' := 378) rfl (hb hby at_374) (by decide) (by decide) ?_
      show Steps pP.tables eE below (T229.setTop (mkF mM 378 Ls222 [(.int (1 : Int32))])) _
      exact retN X229 hx (t := .boolean) Bd.returns (by simp) (hb hby at_378) hr
    · show Q_law Z p0 p1 p2 p3 p4 p5 zc fm h0 n0 _ T229.heap _
      rw [Kq229]
      exact ⟨rfl, N207, K210⟩
    · show CHr Z own_EL sS.vm sS.heap T229.vm T229.heap
      rw [hh, Kq229]
      exact CH208.trans (CHv.at X229 hZ207 hEL CH208.1)
  · let Ls231 : Array Slot := #[.val (.int p0), .val (.int p1), .val (.int p2), .val (.int p3), .val (.int p4), .val (.long p5), .second, .val (.int (3 : Int32)), .val (.int x0), .val (.int x1), .val (.int x2), .val (.int x3), .val (.ref b10), .unset, .unset, .unset, .unset]
    have hcs : ∀ c ∈ ([x0, x1, x2] : List Int32), ¬ c < 0 ∧ ¬ (255 : Int32) < c := by
      intro c hc
      simp only [List.mem_cons, List.not_mem_nil, or_false] at hc
      rcases hc with rfl | rfl | rfl
      all_goals first | exact hxb0 | exact hxb1 | exact hxb2
    obtain ⟨T232, h232, X232, e232, E232, A232, D232, -, st232⟩ := newO X32 hx hZ0 hown0 (w_5 hw) (w_6 hw) (w_7 hw) e32 (g := (mkF mM 141 Ls231 [])) rfl (hb hby at_141) (by decide) (by decide)
    obtain ⟨b232, g232⟩ : ∃ z, z = h32.size := ⟨_, rfl⟩
    rw [← g232] at A232 D232 st232
    have Sn_b232 : Safe Z own_EL sS.vm h32 b232 := Safe.new (Nat.le_of_eq g232.symm)
    have f233 := (((((O0.ext E10).wr W14 g_b10).wr W20 g_b10).wr W26 g_b10).wr W32 g_b10)
    have g_b232 : n0 ≤ b232 := Nat.le_trans (own_osz f233) (Nat.le_of_eq g232.symm)
    have sz_b232 : h0.size ≤ b232 := Nat.le_trans K37.1 (Nat.le_of_eq g232.symm)
    have CH234 : CHr Z own_EL sS.vm h0 sS.vm h232 := CH33.trans (CHr.ext E232 CH33.1)
    have hk235 := Nat.le_trans hk36 E232.1
    have K236 : Keep h0 h232 [] := K37.ext E232
    have F_b232_value : Fld Z h232 b232 "java/lang/String" "value" "[B" .null := D232 (Or.inr (w_20 hw)) (ty := (.array .byte)) (by decide)
    have F_b232_coder : Fld Z h232 b232 "java/lang/String" "coder" "B" (.int (0 : Int32)) := D232 (Or.inr (w_21 hw)) (ty := .byte) (by decide)
    obtain ⟨T237, h237, k237, X237, e237, E237, A237, st237⟩ := newP X232 hx hZ0 (aty := .char) (w_4 hw) e232 (g := (mkF mM 146 Ls231 [(.int (3 : Int32)), (.ref b232), (.ref b232)])) rfl (hb hby at_146) rfl (by decide) (cap := 3) (by decide) (by decide) (by decide) (by decide)
    obtain ⟨b237, g237⟩ : ∃ z, z = h232.size := ⟨_, rfl⟩
    rw [← g237] at A237 st237
    have Sn_b237 : Safe Z own_EL sS.vm h232 b237 := Safe.new (Nat.le_of_eq g237.symm)
    have f238 := (f233.ext E232)
    have g_b237 : n0 ≤ b237 := Nat.le_trans (own_osz f238) (Nat.le_of_eq g237.symm)
    have sz_b237 : h0.size ≤ b237 := Nat.le_trans K236.1 (Nat.le_of_eq g237.symm)
    have CH239 : CHr Z own_EL sS.vm h0 sS.vm h237 := CH234.trans (CHr.ext E237 CH234.1)
    have hk240 := Nat.le_trans hk235 E237.1
    have K241 : Keep h0 h237 [] := K236.ext E237
    have V237 : Arv Z h237 b237 k237 .char (3 : Int32) [(.int (0 : Int32)), (.int (0 : Int32)), (.int (0 : Int32))] (.int (0 : Int32)) := (Arv.new A237 (by decide)).pad (pad_rep [] (.int (0 : Int32)) 3)
    obtain ⟨cl242, Ar242, qk242, S242, Nn242, Hh242, G242⟩ := id V237
    have hin242 : ¬ ((0 : Int32) < 0 ∨ cl242.slots.size ≤ ((0 : Int32)).toNatClampNeg) := inb_of S242 ⟨by decide, by decide⟩
    obtain ⟨T242, h242, X242, e242, W242, st242⟩ := stC X237 hx hZ0 e237 Ar242 (j := (0 : Int32)) hin242 (g := (mkF mM 152 Ls231 [(.int x0), (.int (0 : Int32)), (.ref b237), (.ref b237), (.ref b232), (.ref b232)])) rfl rfl (hb hby at_152)
    rw [own_nc hxb0] at W242
    have f245 := (Safe.ext E237 CH234.1 Sn_b237)
    have sfp244 := f245
    have CH243 : CHr Z own_EL sS.vm h0 sS.vm h242 := CH239.trans (CHr.wr W242 sfp244 CH239.1)
    have hk246 := Nat.le_trans hk240 (Nat.le_of_eq W242.size.symm)
    have K247 : Keep h0 h242 [] := K241.wr W242 (Or.inr sz_b237)
    have V242 : Arv Z h242 b237 k237 .char (3 : Int32) [(.int x0), (.int (0 : Int32)), (.int (0 : Int32))] (.int (0 : Int32)) := Arv.set Ar242 qk242 S242 Nn242 Hh242 G242 (own_nc hxb0 ▸ fits_nar_char _) W242 0 rfl (Nat.le_of_ble_eq_true rfl)
    have N242 := Fr.snoc X242 N32 g_b237
    obtain ⟨cl248, Ar248, qk248, S248, Nn248, Hh248, G248⟩ := id V242
    have hin248 : ¬ ((1 : Int32) < 0 ∨ cl248.slots.size ≤ ((1 : Int32)).toNatClampNeg) := inb_of S248 ⟨by decide, by decide⟩
    obtain ⟨T248, h248, X248, e248, W248, st248⟩ := stC X242 hx hZ0 e242 Ar248 (j := (1 : Int32)) hin248 (g := (mkF mM 157 Ls231 [(.int x1), (.int (1 : Int32)), (.ref b237), (.ref b237), (.ref b232), (.ref b232)])) rfl rfl (hb hby at_157)
    rw [own_nc hxb1] at W248
    have f251 := (Safe.wr W242 sfp244 CH239.1 f245)
    have sfp250 := f251
    have CH249 : CHr Z own_EL sS.vm h0 sS.vm h248 := CH243.trans (CHr.wr W248 sfp250 CH243.1)
    have hk252 := Nat.le_trans hk246 (Nat.le_of_eq W248.size.symm)
    have K253 : Keep h0 h248 [] := K247.wr W248 (Or.inr sz_b237)
    have V248 : Arv Z h248 b237 k237 .char (3 : Int32) [(.int x0), (.int x1), (.int (0 : Int32))] (.int (0 : Int32)) := Arv.set Ar248 qk248 S248 Nn248 Hh248 G248 (own_nc hxb1 ▸ fits_nar_char _) W248 1 rfl (Nat.le_of_ble_eq_true rfl)
    have N248 := Fr.snoc X248 N242 g_b237
    obtain ⟨cl254, Ar254, qk254, S254, Nn254, Hh254, G254⟩ := id V248
    have hin254 : ¬ ((2 : Int32) < 0 ∨ cl254.slots.size ≤ ((2 : Int32)).toNatClampNeg) := inb_of S254 ⟨by decide, by decide⟩
    obtain ⟨T254, h254, X254, e254, W254, st254⟩ := stC X248 hx hZ0 e248 Ar254 (j := (2 : Int32)) hin254 (g := (mkF mM 162 Ls231 [(.int x2), (.int (2 : Int32)), (.ref b237), (.ref b237), (.ref b232), (.ref b232)])) rfl rfl (hb hby at_162)
    rw [own_nc hxb2] at W254
    have f257 := (Safe.wr W248 sfp250 CH243.1 f251)
    have sfp256 := f257
    have CH255 : CHr Z own_EL sS.vm h0 sS.vm h254 := CH249.trans (CHr.wr W254 sfp256 CH249.1)
    have hk258 := Nat.le_trans hk252 (Nat.le_of_eq W254.size.symm)
    have K259 : Keep h0 h254 [] := K253.wr W254 (Or.inr sz_b237)
    have V254 : Arv Z h254 b237 k237 .char (3 : Int32) [(.int x0), (.int x1), (.int x2)] (.int (0 : Int32)) := Arv.set Ar254 qk254 S254 Nn254 Hh254 G254 (own_nc hxb2 ▸ fits_nar_char _) W254 2 rfl (Nat.le_of_ble_eq_true rfl)
    have N254 := Fr.snoc X254 N248 g_b237
    have f260 := ((((f238.ext E237).wr W242 g_b237).wr W248 g_b237).wr W254 g_b237)
    have f261 := ((((A232.ext E237).wr W242).wr W248).wr W254)
    have f262 := ((((F_b232_value.ext E237).other W242 (Or.inl (Nat.ne_of_lt (Nat.lt_of_lt_of_le (A232).lt (Nat.le_of_eq g237.symm))))).other W248 (Or.inl (Nat.ne_of_lt (Nat.lt_of_lt_of_le (A232).lt (Nat.le_of_eq g237.symm))))).other W254 (Or.inl (Nat.ne_of_lt (Nat.lt_of_lt_of_le (A232).lt (Nat.le_of_eq g237.symm)))))
    have f263 := ((((F_b232_coder.ext E237).other W242 (Or.inl (Nat.ne_of_lt (Nat.lt_of_lt_of_le (A232).lt (Nat.le_of_eq g237.symm))))).other W248 (Or.inl (Nat.ne_of_lt (Nat.lt_of_lt_of_le (A232).lt (Nat.le_of_eq g237.symm))))).other W254 (Or.inl (Nat.ne_of_lt (Nat.lt_of_lt_of_le (A232).lt (Nat.le_of_eq g237.symm)))))
    obtain ⟨_, _, ⟨T264, L264, k264, n264⟩, -, X264, ⟨Lc264, hQ264, l264, y264, z264⟩, st264⟩ := X254.specialBack hx (y := (⟨"java/lang/String", "<init>", "([C)V"⟩ : MethodName)) rfl hown0 (mvT hZ0 (w_8 hw)) (mvT hZ0 (w_9 hw)) (mvT hZ0 (w_10 hw)) (by decide) (own_new (W := 1) hZ0 hw (cs := [x0, x1, x2]) (n := 3) g_b232 (own_osz f260) f261 f262 f263 V254 (Sta.ext (f260).2 S_COMPACT_STRINGS) hp1 rfl rfl (by decide) (by decide) hcs (by decide) (by decide)) (g := (mkF mM 163 Ls231 [(.ref b237), (.ref b232), (.ref b232)])) rfl (by rw [hml]; rfl) (Steps.refl _) (a := b232) (argsL := [(.ref b237)]) (rest := [(.ref b232)]) (lenOf pd_17 rfl) rfl (by show 2 * 0 + _ ≤ _; exact Nat.le_of_eq rfl) (hb hby at_163) (fun _ _ => ⟨rfl, e254, (by decide : 3 + 1 ≤ _), (by decide : 11 + 3 ≤ _)⟩)
    dsimp only [Pt.U, Pt.locs, Pt.cells, Pt.slots] at X264 l264 y264 z264 st264 hQ264
    subst l264 y264 z264
    obtain ⟨rfl, Nq264, Kq264, t264, kb264, hs264, Sq264⟩ := hQ264
    have N264 := Fr.app N254 Nq264
    have g_t264 : n0 ≤ t264 := Nat.le_trans (own_osz f260) hs264
    have sz_t264 : h0.size ≤ t264 := Nat.le_trans K259.1 hs264
    have f266 := (Safe.wr W254 sfp256 CH249.1 (Safe.wr W248 sfp250 CH243.1 (Safe.wr W242 sfp244 CH239.1 (Safe.ext E237 CH234.1 (Safe.ext E232 CH33.1 Sn_b232)))))
    have sfp267 := (sfS f266 sf0)
    have CH265 : CHr Z own_EL sS.vm h0 sS.vm T264.heap := CH255.trans (CHr.keep Kq264 sfp267 CH255.1)
    have hk268 := Nat.le_trans hk258 Kq264.1
    have K269 : Keep h0 T264.heap [] := K259.trans Kq264 (allS (Or.inr sz_b232) all0)
    let Ls270 : Array Slot := #[.val (.int p0), .val (.int p1), .val (.int p2), .val (.int p3), .val (.int p4), .val (.long p5), .second, .val (.int (3 : Int32)), .val (.int x0), .val (.int x1), .val (.int x2), .val (.int x3), .val (.ref b10), .val (.ref b232), .unset, .unset, .unset]
    obtain ⟨T271, h271, X271, e271, E271, A271, D271, -, st271⟩ := newO X264 hx hZ0 hown0 (w_26 hw) (w_27 hw) (w_28 hw) rfl (g := (mkF mM 203 Ls270 [])) rfl (hb hby at_203) (by decide) (by decide)
    obtain ⟨b271, g271⟩ : ∃ z, z = T264.heap.size := ⟨_, rfl⟩
    rw [← g271] at A271 D271 st271
    have Sn_b271 : Safe Z own_EL sS.vm T264.heap b271 := Safe.new (Nat.le_of_eq g271.symm)
    have f272 := (f260.keep Kq264 (allS g_b232 all0))
    have g_b271 : n0 ≤ b271 := Nat.le_trans (own_osz f272) (Nat.le_of_eq g271.symm)
    have sz_b271 : h0.size ≤ b271 := Nat.le_trans K269.1 (Nat.le_of_eq g271.symm)
    have CH273 : CHr Z own_EL sS.vm h0 sS.vm h271 := CH265.trans (CHr.ext E271 CH265.1)
    have hk274 := Nat.le_trans hk268 E271.1
    have K275 : Keep h0 h271 [] := K269.ext E271
    have F_b271__path : Fld Z h271 b271 "com/example/ullr/ullr/files/ListedFile" "_path" "Ljava/lang/String;" .null := D271 (Or.inr (w_40 hw)) (ty := (.object "java/lang/String")) (by decide)
    have F_b271__bytes : Fld Z h271 b271 "com/example/ullr/ullr/files/ListedFile" "_bytes" "J" (.long (0 : Int64)) := D271 (Or.inr (w_42 hw)) (ty := .long) (by decide)
    have f276 := ((Sq264).1.ext E271)
    have f277 := (f272.ext E271)
    obtain ⟨_, _, ⟨T278, L278, k278, n278⟩, -, X278, hS2278, hg2278, ⟨Lc278, hQ278, l278, y278, z278, CHl278⟩, st278⟩ := X271.specialBackS hx (y := (⟨"com/example/ullr/ullr/files/ListedFile", "<init>", "(Ljava/lang/String;J)V"⟩ : MethodName)) rfl hown0 (mvT hZ0 (w_29 hw)) (mvT hZ0 (w_30 hw)) (mvT hZ0 (w_31 hw)) (by decide) (own_backOfSH (s := sS) (vm0 := sS.vm) (rm := ({ frames := 1, cells := 2, slots := 20, locals := 14 } : Room)) (W := 1) (rm_fini l Z a0 hw [] b271 b232 p5 .null (.long (0 : Int64)) h271 n0 f277 A271 F_b271__path F_b271__bytes g_b271 f276) hZ0 (w_31 hw) (w_28 hw) (by decide) (by decide) hEL CH273.1 own_sf0) (g := (mkF mM 211 Ls270 [(.long p5), (.ref b232), (.ref b271), (.ref b271)])) rfl (by rw [hml]; rfl) (Steps.refl _) (a := b271) (argsL := [(.ref b232), (.long p5)]) (rest := [(.ref b271)]) (lenOf pd_18 rfl) rfl (by show 2 * 0 + _ ≤ _; exact Nat.le_of_eq rfl) (hb hby at_211) (fun _ _ => ⟨rfl, e271, (by decide : 5 + 2 ≤ _), (by decide : 16 + 20 ≤ _)⟩)
    dsimp only [Pt.U, Pt.locs, Pt.cells, Pt.slots] at X278 l278 y278 z278 st278 hQ278 hS2278 hg2278 CHl278
    subst l278 y278 z278
    have hS278 := foldS hS0 (by rw [e271]; exact hk274) hS2278 hg2278
    have hZ278 : Z.Warmed39 (sS.setVm T278.vm).vm := State.Warmed39.trans (t := sS.setVm sS.vm) hZ0 hS2278.1
    have hown278 : (sS.setVm T278.vm).vm.findClass "com/example/ullr/ullr/files/ListedFileNamePinLaw" = some mM.cls := by rw [show (sS.setVm T278.vm).vm = T278.vm from rfl, hS2278.1.alike.findClass]; exact hown0
    have hk278 : T278.heap.size ≤ T278.heap.size := Nat.le_refl _
    replace X278 : Stand pP l eE room_1 (sS.setVm T278.vm) mM _ below meth cC T278 _ _ _ := X278
    obtain ⟨rfl, Nq278, Kq278, q278_0, q278_1⟩ := hQ278
    have N278 := Fr.app N264 Nq278
    have CH279 : CHr Z own_EL sS.vm h0 T278.vm T278.heap := CH273.trans (CHl278)
    skip
    have K281 : Keep h0 T278.heap [] := K275.trans Kq278 (allS (Or.inr sz_b271) all0)
    let Ls282 : Array Slot := #[.val (.int p0), .val (.int p1), .val (.int p2), .val (.int p3), .val (.int p4), .val (.long p5), .second, .val (.int (3 : Int32)), .val (.int x0), .val (.int x1), .val (.int x2), .val (.int x3), .val (.ref b10), .val (.ref b232), .val (.ref b271), .unset, .unset]
    have f283 := (f276.keep Kq278)
    have f284 := (((Sq264).2.1.ext E271).keep Kq278 (ninS (Nat.ne_of_lt (Nat.lt_of_lt_of_le ((Sq264).1).lt (Nat.le_of_eq g271.symm))) nin0))
    have f285 := (((Sq264).2.2.1.ext E271).keep Kq278 (ninS (Nat.ne_of_lt (Nat.lt_of_lt_of_le ((Sq264).1).lt (Nat.le_of_eq g271.symm))) nin0))
    have f286 := (((Sq264).2.2.2.1.ext E271).keep Kq278 (ninS (Nat.ne_of_lt (Nat.lt_of_lt_of_le ((Sq264).2.2.2.1).lt (Nat.le_of_eq g271.symm))) nin0))
    have f287 := (f277.keep Kq278 (allS g_b271 all0))
    obtain ⟨cq288, kq288, q288a, q288b, q288c⟩ := isOf hZ278 rfl q278_0
    obtain ⟨_, _, ⟨T288, L288, k288, n288⟩, -, X288, hS2288, hg2288, ⟨Lc288, hQ288, l288, y288, z288, CHl288⟩, st288⟩ := X278.virtualBackS hx (y := (⟨"com/example/ullr/ullr/files/ListedFile", "name", "()Ljava/lang/String;"⟩ : MethodName)) (z := (⟨"com/example/ullr/ullr/files/ListedFile", "name", "()Ljava/lang/String;"⟩ : MethodName)) hown278 (mvT hZ278 (w_43 hw)) (mvT hZ278 (w_44 hw)) (notFace_of_selects (args := #[]) (mvT hZ278 (w_46 hw))) (mvT hZ278 (w_46 hw)) (mvT hZ278 (w_45 hw)) (by decide) (own_backOfSH (s := sS) (vm0 := T278.vm) (rm := ({ frames := 6, cells := 2, slots := 12, locals := 93 } : Room)) (W := 0) (rm_name l Z a0 hw [] b271 b232 t264 kb264 ([x0, x1, x2]) zc fm T278.heap n0 f287 q278_1 (⟨f283, f284, f285, f286, (Sq264).2.2.2.2⟩ : own_Str Z T278.heap b232 t264 kb264 [x0, x1, x2]) (Nat.le_of_ble_eq_true rfl : [x0, x1, x2].length ≤ 8) S_COMPACT_STRINGS hp1 S_SIOOBE_FORMATTER hp3) hZ278 (w_47 hw) (w_28 hw) (by decide) (by decide) hEL CH279.1 own_sf0) q288a q288c (g := (mkF mM 218 Ls282 [(.ref b271)])) rfl (by rw [hml]; rfl) (Steps.refl _) (argsL := []) (rest := []) (lenOf pd_19 rfl) rfl (by show 2 * 0 + _ ≤ _; exact Nat.le_of_eq rfl) (hb hby at_218) (fun _ _ => ⟨rfl, rfl, (by decide : 7 + 2 ≤ _), (by decide : 36 + 12 ≤ _)⟩)
    dsimp only [Pt.U, Pt.locs, Pt.cells, Pt.slots] at X288 l288 y288 z288 st288 hQ288 hS2288 hg2288 CHl288
    subst l288 y288 z288
    have hS288 := foldS hS278 (hk278) hS2288 hg2288
    have hZ288 : Z.Warmed39 (sS.setVm T288.vm).vm := State.Warmed39.trans (t := sS.setVm T278.vm) hZ278 hS2288.1
    have hown288 : (sS.setVm T288.vm).vm.findClass "com/example/ullr/ullr/files/ListedFileNamePinLaw" = some mM.cls := by rw [show (sS.setVm T288.vm).vm = T288.vm from rfl, hS2288.1.alike.findClass]; exact hown278
    have hk288 : T288.heap.size ≤ T288.heap.size := Nat.le_refl _
    replace X288 : Stand pP l eE room_1 (sS.setVm T288.vm) mM _ below meth cC T288 _ _ _ := X288
    obtain ⟨r_288, t2_288, k2_288, rfl, Nq288, Kq288, q288_0⟩ := hQ288
    have N288 := Fr.app N278 Nq288
    have CH289 : CHr Z own_EL sS.vm h0 T288.vm T288.heap := CH279.trans (CHl288)
    skip
    have K291 : Keep h0 T288.heap [] := K281.trans Kq288 all0
    let Ls292 : Array Slot := #[.val (.int p0), .val (.int p1), .val (.int p2), .val (.int p3), .val (.int p4), .val (.long p5), .second, .val (.int (3 : Int32)), .val (.int x0), .val (.int x1), .val (.int x2), .val (.int x3), .val (.ref b10), .val (.ref b232), .val (.ref b271), .val (.ref r_288), .unset]
    let Ls293 : Array Slot := #[.val (.int p0), .val (.int p1), .val (.int p2), .val (.int p3), .val (.int p4), .val (.long p5), .second, .val (.int (3 : Int32)), .val (.int x0), .val (.int x1), .val (.int x2), .val (.int x3), .val (.ref b10), .val (.ref b232), .val (.ref b271), .val (.ref r_288), .val (.int (-1 : Int32))]
    obtain ⟨T294, X294, e294, st294⟩ := own_to X288 (h := T288.heap) (g := (mkF mM 226 Ls293 [])) (g' := (mkF mM 241 #[.val (.int p0), .val (.int p1), .val (.int p2), .val (.int p3), .val (.int p4), .val (.long p5), .second, .val (.int (3 : Int32)), .val (.int x0), .val (.int x1), .val (.int x2), .val (.int x3), .val (.ref b10), .val (.ref b232), .val (.ref b271), .val (.ref r_288), .val (.int (own_lx ([x0, x1, x2] : List Int32) (47 : Int32) (0 + 1)))] [])) (by
      have pre296 : ∀ tg, Steps pP.tables eE below (T288.setTop (mkF mM 235 Ls293 [(.int (47 : Int32)), (.int x0)])) tg → Steps pP.tables eE below (T288.setTop (mkF mM 226 Ls293 [])) tg := fun tg kg => (by
        refine XS.iload X288.here hx rfl (hb hby at_226) rfl ?_
        show Steps pP.tables eE below (T288.setTop (mkF mM 228 Ls293 [(.int (3 : Int32))])) _
        refine XS.ifNo X288.here hx rfl (hb hby at_228) rfl ((if0 _ _).trans (tlt (by decide : (0 : Int32) < (3 : Int32))).2.2.2) ?_
        show Steps pP.tables eE below (T288.setTop (mkF mM 231 Ls293 [])) _
        refine XS.iload X288.here hx rfl (hb hby at_231) rfl ?_
        show Steps pP.tables eE below (T288.setTop (mkF mM 233 Ls293 [(.int x0)])) _
        refine XS.bipush X288.here hx rfl (hb hby at_233) ?_
        exact kg)
      by_cases hc295 : x0 = (47 : Int32)
      · let Ls297 : Array Slot := #[.val (.int p0), .val (.int p1), .val (.int p2), .val (.int p3), .val (.int p4), .val (.long p5), .second, .val (.int (3 : Int32)), .val (.int x0), .val (.int x1), .val (.int x2), .val (.int x3), .val (.ref b10), .val (.ref b232), .val (.ref b271), .val (.ref r_288), .val (.int (0 : Int32))]
        refine ⟨T288, X288, rfl, fun tg kg => ?_⟩
        rw [(own_lxS ([x0, x1, x2] : List Int32) (47 : Int32) 0).trans (if_pos hc295)] at kg
        refine pre296 tg ?_
        refine XS.icmpNo X288.here hx rfl (hb hby at_235) rfl (teq hc295).2 ?_
        show Steps pP.tables eE below (T288.setTop (mkF mM 238 Ls293 [])) _
        refine XS.iconst X288.here hx rfl (hb hby at_238) ?_
        show Steps pP.tables eE below (T288.setTop (mkF mM 239 Ls293 [(.int (0 : Int32))])) _
        refine XS.istore X288.here hx rfl (hb hby at_239) rfl (l' := Ls297) rfl ?_
        exact kg
      · refine ⟨T288, X288, rfl, fun tg kg => ?_⟩
        rw [(own_lxS ([x0, x1, x2] : List Int32) (47 : Int32) 0).trans (if_neg hc295)] at kg
        refine pre296 tg ?_
        refine XS.icmpYes X288.here hx rfl (pc0 := 235) (pc' := 241) rfl (hb hby at_235) rfl (feq hc295).2 (by decide) (by decide) ?_
        exact kg)
    let Ls298 : Array Slot := #[.val (.int p0), .val (.int p1), .val (.int p2), .val (.int p3), .val (.int p4), .val (.long p5), .second, .val (.int (3 : Int32)), .val (.int x0), .val (.int x1), .val (.int x2), .val (.int x3), .val (.ref b10), .val (.ref b232), .val (.ref b271), .val (.ref r_288), .val (.int (own_lx ([x0, x1, x2] : List Int32) (47 : Int32) (0 + 1)))]
    obtain ⟨T299, X299, e299, st299⟩ := own_to X294 (h := T288.heap) (g := (mkF mM 241 Ls298 [])) (g' := (mkF mM 257 #[.val (.int p0), .val (.int p1), .val (.int p2), .val (.int p3), .val (.int p4), .val (.long p5), .second, .val (.int (3 : Int32)), .val (.int x0), .val (.int x1), .val (.int x2), .val (.int x3), .val (.ref b10), .val (.ref b232), .val (.ref b271), .val (.ref r_288), .val (.int (own_lx ([x0, x1, x2] : List Int32) (47 : Int32) (1 + 1)))] [])) (by
      have pre301 : ∀ tg, Steps pP.tables eE below (T294.setTop (mkF mM 251 Ls298 [(.int (47 : Int32)), (.int x1)])) tg → Steps pP.tables eE below (T294.setTop (mkF mM 241 Ls298 [])) tg := fun tg kg => (by
        refine XS.iload X294.here hx rfl (hb hby at_241) rfl ?_
        show Steps pP.tables eE below (T294.setTop (mkF mM 243 Ls298 [(.int (3 : Int32))])) _
        refine XS.iconst X294.here hx rfl (hb hby at_243) ?_
        show Steps pP.tables eE below (T294.setTop (mkF mM 244 Ls298 [(.int (1 : Int32)), (.int (3 : Int32))])) _
        refine XS.icmpNo X294.here hx rfl (hb hby at_244) rfl (tlt (by decide : (1 : Int32) < (3 : Int32))).2.2.2 ?_
        show Steps pP.tables eE below (T294.setTop (mkF mM 247 Ls298 [])) _
        refine XS.iload X294.here hx rfl (hb hby at_247) rfl ?_
        show Steps pP.tables eE below (T294.setTop (mkF mM 249 Ls298 [(.int x1)])) _
        refine XS.bipush X294.here hx rfl (hb hby at_249) ?_
        exact kg)
      by_cases hc300 : x1 = (47 : Int32)
      · let Ls302 : Array Slot := #[.val (.int p0), .val (.int p1), .val (.int p2), .val (.int p3), .val (.int p4), .val (.long p5), .second, .val (.int (3 : Int32)), .val (.int x0), .val (.int x1), .val (.int x2), .val (.int x3), .val (.ref b10), .val (.ref b232), .val (.ref b271), .val (.ref r_288), .val (.int (1 : Int32))]
        refine ⟨T294, X294, e294, fun tg kg => ?_⟩
        rw [(own_lxS ([x0, x1, x2] : List Int32) (47 : Int32) 1).trans (if_pos hc300)] at kg
        refine pre301 tg ?_
        refine XS.icmpNo X294.here hx rfl (hb hby at_251) rfl (teq hc300).2 ?_
        show Steps pP.tables eE below (T294.setTop (mkF mM 254 Ls298 [])) _
        refine XS.iconst X294.here hx rfl (hb hby at_254) ?_
        show Steps pP.tables eE below (T294.setTop (mkF mM 255 Ls298 [(.int (1 : Int32))])) _
        refine XS.istore X294.here hx rfl (hb hby at_255) rfl (l' := Ls302) rfl ?_
        exact kg
      · refine ⟨T294, X294, e294, fun tg kg => ?_⟩
        rw [(own_lxS ([x0, x1, x2] : List Int32) (47 : Int32) 1).trans (if_neg hc300)] at kg
        refine pre301 tg ?_
        refine XS.icmpYes X294.here hx rfl (pc0 := 251) (pc' := 257) rfl (hb hby at_251) rfl (feq hc300).2 (by decide) (by decide) ?_
        exact kg)
    let Ls303 : Array Slot := #[.val (.int p0), .val (.int p1), .val (.int p2), .val (.int p3), .val (.int p4), .val (.long p5), .second, .val (.int (3 : Int32)), .val (.int x0), .val (.int x1), .val (.int x2), .val (.int x3), .val (.ref b10), .val (.ref b232), .val (.ref b271), .val (.ref r_288), .val (.int (own_lx ([x0, x1, x2] : List Int32) (47 : Int32) (1 + 1)))]
    obtain ⟨T304, X304, e304, st304⟩ := own_to X299 (h := T288.heap) (g := (mkF mM 257 Ls303 [])) (g' := (mkF mM 273 #[.val (.int p0), .val (.int p1), .val (.int p2), .val (.int p3), .val (.int p4), .val (.long p5), .second, .val (.int (3 : Int32)), .val (.int x0), .val (.int x1), .val (.int x2), .val (.int x3), .val (.ref b10), .val (.ref b232), .val (.ref b271), .val (.ref r_288), .val (.int (own_lx ([x0, x1, x2] : List Int32) (47 : Int32) (2 + 1)))] [])) (by
      have pre306 : ∀ tg, Steps pP.tables eE below (T299.setTop (mkF mM 267 Ls303 [(.int (47 : Int32)), (.int x2)])) tg → Steps pP.tables eE below (T299.setTop (mkF mM 257 Ls303 [])) tg := fun tg kg => (by
        refine XS.iload X299.here hx rfl (hb hby at_257) rfl ?_
        show Steps pP.tables eE below (T299.setTop (mkF mM 259 Ls303 [(.int (3 : Int32))])) _
        refine XS.iconst X299.here hx rfl (hb hby at_259) ?_
        show Steps pP.tables eE below (T299.setTop (mkF mM 260 Ls303 [(.int (2 : Int32)), (.int (3 : Int32))])) _
        refine XS.icmpNo X299.here hx rfl (hb hby at_260) rfl (tlt (by decide : (2 : Int32) < (3 : Int32))).2.2.2 ?_
        show Steps pP.tables eE below (T299.setTop (mkF mM 263 Ls303 [])) _
        refine XS.iload X299.here hx rfl (hb hby at_263) rfl ?_
        show Steps pP.tables eE below (T299.setTop (mkF mM 265 Ls303 [(.int x2)])) _
        refine XS.bipush X299.here hx rfl (hb hby at_265) ?_
        exact kg)
      by_cases hc305 : x2 = (47 : Int32)
      · let Ls307 : Array Slot := #[.val (.int p0), .val (.int p1), .val (.int p2), .val (.int p3), .val (.int p4), .val (.long p5), .second, .val (.int (3 : Int32)), .val (.int x0), .val (.int x1), .val (.int x2), .val (.int x3), .val (.ref b10), .val (.ref b232), .val (.ref b271), .val (.ref r_288), .val (.int (2 : Int32))]
        refine ⟨T299, X299, e299, fun tg kg => ?_⟩
        rw [(own_lxS ([x0, x1, x2] : List Int32) (47 : Int32) 2).trans (if_pos hc305)] at kg
        refine pre306 tg ?_
        refine XS.icmpNo X299.here hx rfl (hb hby at_267) rfl (teq hc305).2 ?_
        show Steps pP.tables eE below (T299.setTop (mkF mM 270 Ls303 [])) _
        refine XS.iconst X299.here hx rfl (hb hby at_270) ?_
        show Steps pP.tables eE below (T299.setTop (mkF mM 271 Ls303 [(.int (2 : Int32))])) _
        refine XS.istore X299.here hx rfl (hb hby at_271) rfl (l' := Ls307) rfl ?_
        exact kg
      · refine ⟨T299, X299, e299, fun tg kg => ?_⟩
        rw [(own_lxS ([x0, x1, x2] : List Int32) (47 : Int32) 2).trans (if_neg hc305)] at kg
        refine pre306 tg ?_
        refine XS.icmpYes X299.here hx rfl (pc0 := 267) (pc' := 273) rfl (hb hby at_267) rfl (feq hc305).2 (by decide) (by decide) ?_
        exact kg)
    let Ls308 : Array Slot := #[.val (.int p0), .val (.int p1), .val (.int p2), .val (.int p3), .val (.int p4), .val (.long p5), .second, .val (.int (3 : Int32)), .val (.int x0), .val (.int x1), .val (.int x2), .val (.int x3), .val (.ref b10), .val (.ref b232), .val (.ref b271), .val (.ref r_288), .val (.int (own_lx ([x0, x1, x2] : List Int32) (47 : Int32) (2 + 1)))]
    have f309 := (f287.keep Kq288 all0)
    obtain ⟨cq310, kq310, q310a, q310b, q310c⟩ := isOf hZ288 e304 (q288_0).1
    obtain ⟨_, _, ⟨T310, L310, k310, n310⟩, -, X310, ⟨Lc310, hQ310, l310, y310, z310⟩, st310⟩ := X304.virtualBack hx (y := (⟨"java/lang/String", "length", "()I"⟩ : MethodName)) (z := (⟨"java/lang/String", "length", "()I"⟩ : MethodName)) hown288 (mvT hZ288 (w_103 hw)) (mvT hZ288 (w_54 hw)) (notFace_of_selects (args := #[]) (mvT hZ288 (w_56 hw))) (mvT hZ288 (w_56 hw)) (mvT hZ288 (w_55 hw)) (by decide) (own_len (W := 0) hZ288 hw (⟨(q288_0).1, (q288_0).2.1, (q288_0).2.2.1, (q288_0).2.2.2.1, (q288_0).2.2.2.2⟩ : own_Str Z T288.heap r_288 t2_288 k2_288 ([x0, x1, x2].drop (own_ln [x0, x1, x2] (47 : Int32) [x0, x1, x2].length))) (Sta.ext (f309).2 S_COMPACT_STRINGS) hp1 (by decide) (by decide)) q310a q310c (g := (mkF mM 298 Ls308 [(.ref r_288)])) rfl (by rw [hml]; rfl) (Steps.refl _) (argsL := []) (rest := []) (lenOf pd_5 rfl) rfl (by show 2 * 0 + _ ≤ _; exact Nat.le_of_eq rfl) (hb hby at_298) (fun _ _ => ⟨rfl, e304, (by decide : 9 + 0 ≤ _), (by decide : 48 + 0 ≤ _)⟩)
    dsimp only [Pt.U, Pt.locs, Pt.cells, Pt.slots] at X310 l310 y310 z310 st310 hQ310
    subst l310 y310 z310
    obtain ⟨rfl, rfl, Kq310⟩ := hQ310
    try rw [List.append_nil] at X310
    have f311 := (((((((((V32.ext E232).ext E237).other W242 (Nat.ne_of_lt (Nat.lt_of_lt_of_le (Nat.lt_of_lt_of_le (Nat.lt_of_lt_of_le (Nat.lt_of_lt_of_le (Nat.lt_of_lt_of_le (Nat.lt_of_lt_of_le (V10).lt (Nat.le_of_eq W14.size.symm)) (Nat.le_of_eq W20.size.symm)) (Nat.le_of_eq W26.size.symm)) (Nat.le_of_eq W32.size.symm)) E232.1) (Nat.le_of_eq g237.symm)))).other W248 (Nat.ne_of_lt (Nat.lt_of_lt_of_le (Nat.lt_of_lt_of_le (Nat.lt_of_lt_of_le (Nat.lt_of_lt_of_le (Nat.lt_of_lt_of_le (Nat.lt_of_lt_of_le (V10).lt (Nat.le_of_eq W14.size.symm)) (Nat.le_of_eq W20.size.symm)) (Nat.le_of_eq W26.size.symm)) (Nat.le_of_eq W32.size.symm)) E232.1) (Nat.le_of_eq g237.symm)))).other W254 (Nat.ne_of_lt (Nat.lt_of_lt_of_le (Nat.lt_of_lt_of_le (Nat.lt_of_lt_of_le (Nat.lt_of_lt_of_le (Nat.lt_of_lt_of_le (Nat.lt_of_lt_of_le (V10).lt (Nat.le_of_eq W14.size.symm)) (Nat.le_of_eq W20.size.symm)) (Nat.le_of_eq W26.size.symm)) (Nat.le_of_eq W32.size.symm)) E232.1) (Nat.le_of_eq g237.symm)))).keep Kq264 (ninS (Nat.ne_of_lt (Nat.lt_of_lt_of_le (Nat.lt_of_lt_of_le (Nat.lt_of_lt_of_le (Nat.lt_of_lt_of_le (Nat.lt_of_lt_of_le (V10).lt (Nat.le_of_eq W14.size.symm)) (Nat.le_of_eq W20.size.symm)) (Nat.le_of_eq W26.size.symm)) (Nat.le_of_eq W32.size.symm)) (Nat.le_of_eq g232.symm))) nin0)).ext E271).keep Kq278 (ninS (Nat.ne_of_lt (Nat.lt_of_lt_of_le (Nat.lt_of_lt_of_le (Nat.lt_of_lt_of_le (Nat.lt_of_lt_of_le (Nat.lt_of_lt_of_le (Nat.lt_of_lt_of_le (Nat.lt_of_lt_of_le (Nat.lt_of_lt_of_le (Nat.lt_of_lt_of_le (Nat.lt_of_lt_of_le (Nat.lt_of_lt_of_le (V10).lt (Nat.le_of_eq W14.size.symm)) (Nat.le_of_eq W20.size.symm)) (Nat.le_of_eq W26.size.symm)) (Nat.le_of_eq W32.size.symm)) E232.1) E237.1) (Nat.le_of_eq W242.size.symm)) (Nat.le_of_eq W248.size.symm)) (Nat.le_of_eq W254.size.symm)) Kq264.1) (Nat.le_of_eq g271.symm))) nin0)).keep Kq288 nin0)
    obtain ⟨_, _, ⟨T312, L312, k312, n312⟩, -, X312, ⟨Lc312, hQ312, l312, y312, z312⟩, st312⟩ := Jvm.LawKit.callS X310 hx (y := (⟨"com/example/ullr/ullr/files/ListedFileNamePinLaw", "at", "(Ljava/lang/String;[CIII)Z"⟩ : MethodName)) hown288 (mvT hZ288 (w_104 hw)) (mvT hZ288 (w_105 hw)) (mvT hZ288 (w_2 hw)) (mvT hZ288 (w_106 hw)) (by decide) (backOf (W := 0) (rm_att l Z a0 hw [] r_288 t2_288 k2_288 ([x0, x1, x2]) (own_ln ([x0, x1, x2] : List Int32) (47 : Int32) ([x0, x1, x2] : List Int32).length) b10 k10 ([x0, x1, x2, x3]) (own_lx ([x0, x1, x2] : List Int32) (47 : Int32) (2 + 1)) 0 zc fm T288.heap n0 f309 (⟨(q288_0).1, (q288_0).2.1, (q288_0).2.2.1, (q288_0).2.2.2.1, (q288_0).2.2.2.2⟩ : own_Str Z T288.heap r_288 t2_288 k2_288 ([x0, x1, x2].drop (own_ln [x0, x1, x2] (47 : Int32) [x0, x1, x2].length))) f311 (own_lxp ([x0, x1, x2] : List Int32) (47 : Int32) 3 : (own_lx ([x0, x1, x2] : List Int32) (47 : Int32) (2 + 1)) = own_pr (own_ln ([x0, x1, x2] : List Int32) (47 : Int32) ([x0, x1, x2] : List Int32).length)) (⟨own_ln_le _ _ _, Nat.le_of_ble_eq_true rfl, rfl⟩ : (own_ln ([x0, x1, x2] : List Int32) (47 : Int32) ([x0, x1, x2] : List Int32).length) ≤ [x0, x1, x2].length ∧ [x0, x1, x2].length ≤ 8 ∧ [x0, x1, x2, x3].length = 4) (by decide : 0 < 4) (fun _ => rfl : 0 < [x0, x1, x2].length → [x0, x1, x2, x3].getD 0 0 = [x0, x1, x2].getD 0 0) S_COMPACT_STRINGS hp1 S_SIOOBE_FORMATTER hp3) hZ288 (w_106 hw) (w_2 hw) (by decide) (by decide)) (g := (mkF mM 322 Ls308 [(.int (0 : Int32)), (.int (3 : Int32)), (.int (own_lx ([x0, x1, x2] : List Int32) (47 : Int32) (2 + 1))), (.ref b10), (.ref r_288)])) rfl (by rw [hml]; rfl) (argsL := [(.ref r_288), (.ref b10), (.int (own_lx ([x0, x1, x2] : List Int32) (47 : Int32) (2 + 1))), (.int (3 : Int32)), (.int (0 : Int32))]) (rest := []) (lenOf pd_20 rfl) rfl (by show 2 * 0 + _ ≤ _; exact Nat.le_of_eq rfl) (hb hby at_322) (fun _ _ => ⟨rfl, Kq310, (by decide : 9 + 0 ≤ _), (by decide : 48 + 0 ≤ _)⟩)
    dsimp only [Pt.U, Pt.locs, Pt.cells, Pt.slots] at X312 l312 y312 z312 st312 hQ312
    subst l312 y312 z312
    obtain ⟨rfl, rfl, Kq312⟩ := hQ312
    try rw [List.append_nil] at X312
    obtain ⟨_, _, ⟨T313, L313, k313, n313⟩, -, X313, ⟨Lc313, hQ313, l313, y313, z313⟩, st313⟩ := Jvm.LawKit.callS X312 hx (y := (⟨"com/example/ullr/ullr/files/ListedFileNamePinLaw", "at", "(Ljava/lang/String;[CIII)Z"⟩ : MethodName)) hown288 (mvT hZ288 (w_104 hw)) (mvT hZ288 (w_105 hw)) (mvT hZ288 (w_2 hw)) (mvT hZ288 (w_106 hw)) (by decide) (backOf (W := 0) (rm_att l Z a0 hw [] r_288 t2_288 k2_288 ([x0, x1, x2]) (own_ln ([x0, x1, x2] : List Int32) (47 : Int32) ([x0, x1, x2] : List Int32).length) b10 k10 ([x0, x1, x2, x3]) (own_lx ([x0, x1, x2] : List Int32) (47 : Int32) (2 + 1)) 1 zc fm T288.heap n0 f309 (⟨(q288_0).1, (q288_0).2.1, (q288_0).2.2.1, (q288_0).2.2.2.1, (q288_0).2.2.2.2⟩ : own_Str Z T288.heap r_288 t2_288 k2_288 ([x0, x1, x2].drop (own_ln [x0, x1, x2] (47 : Int32) [x0, x1, x2].length))) f311 (own_lxp ([x0, x1, x2] : List Int32) (47 : Int32) 3 : (own_lx ([x0, x1, x2] : List Int32) (47 : Int32) (2 + 1)) = own_pr (own_ln ([x0, x1, x2] : List Int32) (47 : Int32) ([x0, x1, x2] : List Int32).length)) (⟨own_ln_le _ _ _, Nat.le_of_ble_eq_true rfl, rfl⟩ : (own_ln ([x0, x1, x2] : List Int32) (47 : Int32) ([x0, x1, x2] : List Int32).length) ≤ [x0, x1, x2].length ∧ [x0, x1, x2].length ≤ 8 ∧ [x0, x1, x2, x3].length = 4) (by decide : 1 < 4) (fun _ => rfl : 1 < [x0, x1, x2].length → [x0, x1, x2, x3].getD 1 0 = [x0, x1, x2].getD 1 0) S_COMPACT_STRINGS hp1 S_SIOOBE_FORMATTER hp3) hZ288 (w_106 hw) (w_2 hw) (by decide) (by decide)) (g := (mkF mM 337 Ls308 [(.int (1 : Int32)), (.int (3 : Int32)), (.int (own_lx ([x0, x1, x2] : List Int32) (47 : Int32) (2 + 1))), (.ref b10), (.ref r_288)])) rfl (by rw [hml]; rfl) (argsL := [(.ref r_288), (.ref b10), (.int (own_lx ([x0, x1, x2] : List Int32) (47 : Int32) (2 + 1))), (.int (3 : Int32)), (.int (1 : Int32))]) (rest := []) (lenOf pd_20 rfl) rfl (by show 2 * 0 + _ ≤ _; exact Nat.le_of_eq rfl) (hb hby at_337) (fun _ _ => ⟨rfl, Kq312, (by decide : 9 + 0 ≤ _), (by decide : 48 + 0 ≤ _)⟩)
    dsimp only [Pt.U, Pt.locs, Pt.cells, Pt.slots] at X313 l313 y313 z313 st313 hQ313
    subst l313 y313 z313
    obtain ⟨rfl, rfl, Kq313⟩ := hQ313
    try rw [List.append_nil] at X313
    obtain ⟨_, _, ⟨T314, L314, k314, n314⟩, -, X314, ⟨Lc314, hQ314, l314, y314, z314⟩, st314⟩ := Jvm.LawKit.callS X313 hx (y := (⟨"com/example/ullr/ullr/files/ListedFileNamePinLaw", "at", "(Ljava/lang/String;[CIII)Z"⟩ : MethodName)) hown288 (mvT hZ288 (w_104 hw)) (mvT hZ288 (w_105 hw)) (mvT hZ288 (w_2 hw)) (mvT hZ288 (w_106 hw)) (by decide) (backOf (W := 0) (rm_att l Z a0 hw [] r_288 t2_288 k2_288 ([x0, x1, x2]) (own_ln ([x0, x1, x2] : List Int32) (47 : Int32) ([x0, x1, x2] : List Int32).length) b10 k10 ([x0, x1, x2, x3]) (own_lx ([x0, x1, x2] : List Int32) (47 : Int32) (2 + 1)) 2 zc fm T288.heap n0 f309 (⟨(q288_0).1, (q288_0).2.1, (q288_0).2.2.1, (q288_0).2.2.2.1, (q288_0).2.2.2.2⟩ : own_Str Z T288.heap r_288 t2_288 k2_288 ([x0, x1, x2].drop (own_ln [x0, x1, x2] (47 : Int32) [x0, x1, x2].length))) f311 (own_lxp ([x0, x1, x2] : List Int32) (47 : Int32) 3 : (own_lx ([x0, x1, x2] : List Int32) (47 : Int32) (2 + 1)) = own_pr (own_ln ([x0, x1, x2] : List Int32) (47 : Int32) ([x0, x1, x2] : List Int32).length)) (⟨own_ln_le _ _ _, Nat.le_of_ble_eq_true rfl, rfl⟩ : (own_ln ([x0, x1, x2] : List Int32) (47 : Int32) ([x0, x1, x2] : List Int32).length) ≤ [x0, x1, x2].length ∧ [x0, x1, x2].length ≤ 8 ∧ [x0, x1, x2, x3].length = 4) (by decide : 2 < 4) (fun _ => rfl : 2 < [x0, x1, x2].length → [x0, x1, x2, x3].getD 2 0 = [x0, x1, x2].getD 2 0) S_COMPACT_STRINGS hp1 S_SIOOBE_FORMATTER hp3) hZ288 (w_106 hw) (w_2 hw) (by decide) (by decide)) (g := (mkF mM 352 Ls308 [(.int (2 : Int32)), (.int (3 : Int32)), (.int (own_lx ([x0, x1, x2] : List Int32) (47 : Int32) (2 + 1))), (.ref b10), (.ref r_288)])) rfl (by rw [hml]; rfl) (argsL := [(.ref r_288), (.ref b10), (.int (own_lx ([x0, x1, x2] : List Int32) (47 : Int32) (2 + 1))), (.int (3 : Int32)), (.int (2 : Int32))]) (rest := []) (lenOf pd_20 rfl) rfl (by show 2 * 0 + _ ≤ _; exact Nat.le_of_eq rfl) (hb hby at_352) (fun _ _ => ⟨rfl, Kq313, (by decide : 9 + 0 ≤ _), (by decide : 48 + 0 ≤ _)⟩)
    dsimp only [Pt.U, Pt.locs, Pt.cells, Pt.slots] at X314 l314 y314 z314 st314 hQ314
    subst l314 y314 z314
    obtain ⟨rfl, rfl, Kq314⟩ := hQ314
    try rw [List.append_nil] at X314
    obtain ⟨_, _, ⟨T315, L315, k315, n315⟩, -, X315, ⟨Lc315, hQ315, l315, y315, z315⟩, st315⟩ := Jvm.LawKit.callS X314 hx (y := (⟨"com/example/ullr/ullr/files/ListedFileNamePinLaw", "at", "(Ljava/lang/String;[CIII)Z"⟩ : MethodName)) hown288 (mvT hZ288 (w_104 hw)) (mvT hZ288 (w_105 hw)) (mvT hZ288 (w_2 hw)) (mvT hZ288 (w_106 hw)) (by decide) (backOf (W := 0) (rm_att l Z a0 hw [] r_288 t2_288 k2_288 ([x0, x1, x2]) (own_ln ([x0, x1, x2] : List Int32) (47 : Int32) ([x0, x1, x2] : List Int32).length) b10 k10 ([x0, x1, x2, x3]) (own_lx ([x0, x1, x2] : List Int32) (47 : Int32) (2 + 1)) 3 zc fm T288.heap n0 f309 (⟨(q288_0).1, (q288_0).2.1, (q288_0).2.2.1, (q288_0).2.2.2.1, (q288_0).2.2.2.2⟩ : own_Str Z T288.heap r_288 t2_288 k2_288 ([x0, x1, x2].drop (own_ln [x0, x1, x2] (47 : Int32) [x0, x1, x2].length))) f311 (own_lxp ([x0, x1, x2] : List Int32) (47 : Int32) 3 : (own_lx ([x0, x1, x2] : List Int32) (47 : Int32) (2 + 1)) = own_pr (own_ln ([x0, x1, x2] : List Int32) (47 : Int32) ([x0, x1, x2] : List Int32).length)) (⟨own_ln_le _ _ _, Nat.le_of_ble_eq_true rfl, rfl⟩ : (own_ln ([x0, x1, x2] : List Int32) (47 : Int32) ([x0, x1, x2] : List Int32).length) ≤ [x0, x1, x2].length ∧ [x0, x1, x2].length ≤ 8 ∧ [x0, x1, x2, x3].length = 4) (by decide : 3 < 4) (fun q => absurd q (Nat.not_lt_of_ge (Nat.le_of_ble_eq_true rfl)) : 3 < [x0, x1, x2].length → [x0, x1, x2, x3].getD 3 0 = [x0, x1, x2].getD 3 0) S_COMPACT_STRINGS hp1 S_SIOOBE_FORMATTER hp3) hZ288 (w_106 hw) (w_2 hw) (by decide) (by decide)) (g := (mkF mM 367 Ls308 [(.int (3 : Int32)), (.int (3 : Int32)), (.int (own_lx ([x0, x1, x2] : List Int32) (47 : Int32) (2 + 1))), (.ref b10), (.ref r_288)])) rfl (by rw [hml]; rfl) (argsL := [(.ref r_288), (.ref b10), (.int (own_lx ([x0, x1, x2] : List Int32) (47 : Int32) (2 + 1))), (.int (3 : Int32)), (.int (3 : Int32))]) (rest := []) (lenOf pd_20 rfl) rfl (by show 2 * 0 + _ ≤ _; exact Nat.le_of_eq rfl) (hb hby at_367) (fun _ _ => ⟨rfl, Kq314, (by decide : 9 + 0 ≤ _), (by decide : 48 + 0 ≤ _)⟩)
    dsimp only [Pt.U, Pt.locs, Pt.cells, Pt.slots] at X315 l315 y315 z315 st315 hQ315
    subst l315 y315 z315
    obtain ⟨rfl, rfl, Kq315⟩ := hQ315
    try rw [List.append_nil] at X315
    obtain ⟨fs, hr, hrun, hended, hR1, hR2, hR3, hR4⟩ := Stand.leaveW (s := sS) (vm₁ := T288.vm) X315 hS288 (by rw [Kq315]; exact hk288) (v := some (.int (1 : Int32))) (fun h => by rw [Bd.returns] at h; cases h)
    refine ⟨_, _, pre39 _ ?_, hrun, hended, _, _, rfl, ?_, ?_, hR1, hR2, hR3, hR4.mono (by decide) (by decide)⟩
    · refine XS.iload X32.here hx rfl (hb hby at_58) rfl ?_
      show Steps pP.tables eE below (T32.setTop (mkF mM 60 Ls231 [(.int (3 : Int32))])) _
      refine XS.ifYes X32.here hx rfl (pc0 := 60) (pc' := 78) rfl (hb hby at_60) rfl ((if0 _ _).trans (feq (by decide : ¬ ((3 : Int32) = (0 : Int32)))).2) (by decide) (by decide) ?_
      show Steps pP.tables eE below (T32.setTop (mkF mM 78 Ls231 [])) _
      refine XS.iload X32.here hx rfl (hb hby at_78) rfl ?_
      show Steps pP.tables eE below (T32.setTop (mkF mM 80 Ls231 [(.int (3 : Int32))])) _
      refine XS.iconst X32.here hx rfl (hb hby at_80) ?_
      show Steps pP.tables eE below (T32.setTop (mkF mM 81 Ls231 [(.int (1 : Int32)), (.int (3 : Int32))])) _
      refine XS.icmpYes X32.here hx rfl (pc0 := 81) (pc' := 104) rfl (hb hby at_81) rfl (feq (by decide : ¬ ((3 : Int32) = (1 : Int32)))).2 (by decide) (by decide) ?_
      show Steps pP.tables eE below (T32.setTop (mkF mM 104 Ls231 [])) _
      refine XS.iload X32.here hx rfl (hb hby at_104) rfl ?_
      show Steps pP.tables eE below (T32.setTop (mkF mM 106 Ls231 [(.int (3 : Int32))])) _
      refine XS.iconst X32.here hx rfl (hb hby at_106) ?_
      show Steps pP.tables eE below (T32.setTop (mkF mM 107 Ls231 [(.int (2 : Int32)), (.int (3 : Int32))])) _
      refine XS.icmpYes X32.here hx rfl (pc0 := 107) (pc' := 135) rfl (hb hby at_107) rfl (feq (by decide : ¬ ((3 : Int32) = (2 : Int32)))).2 (by decide) (by decide) ?_
      show Steps pP.tables eE below (T32.setTop (mkF mM 135 Ls231 [])) _
      refine XS.iload X32.here hx rfl (hb hby at_135) rfl ?_
      show Steps pP.tables eE below (T32.setTop (mkF mM 137 Ls231 [(.int (3 : Int32))])) _
      refine XS.iconst X32.here hx rfl (hb hby at_137) ?_
      show Steps pP.tables eE below (T32.setTop (mkF mM 138 Ls231 [(.int (3 : Int32)), (.int (3 : Int32))])) _
      refine XS.icmpNo X32.here hx rfl (hb hby at_138) rfl (teq (by decide : (3 : Int32) = (3 : Int32))).2 ?_
      show Steps pP.tables eE below (T32.setTop (mkF mM 141 Ls231 [])) _
      refine st232 _ ?_
      show Steps pP.tables eE below (T232.setTop (mkF mM 144 Ls231 [(.ref b232)])) _
      refine XS.dup X232.here hx rfl (hb hby at_144) rfl rfl ?_
      show Steps pP.tables eE below (T232.setTop (mkF mM 145 Ls231 [(.ref b232), (.ref b232)])) _
      refine XS.iconst X232.here hx rfl (hb hby at_145) ?_
      show Steps pP.tables eE below (T232.setTop (mkF mM 146 Ls231 [(.int (3 : Int32)), (.ref b232), (.ref b232)])) _
      refine st237 _ ?_
      show Steps pP.tables eE below (T237.setTop (mkF mM 148 Ls231 [(.ref b237), (.ref b232), (.ref b232)])) _
      refine XS.dup X237.here hx rfl (hb hby at_148) rfl rfl ?_
      show Steps pP.tables eE below (T237.setTop (mkF mM 149 Ls231 [(.ref b237), (.ref b237), (.ref b232), (.ref b232)])) _
      refine XS.iconst X237.here hx rfl (hb hby at_149) ?_
      show Steps pP.tables eE below (T237.setTop (mkF mM 150 Ls231 [(.int (0 : Int32)), (.ref b237), (.ref b237), (.ref b232), (.ref b232)])) _
      refine XS.iload X237.here hx rfl (hb hby at_150) rfl ?_
      show Steps pP.tables eE below (T237.setTop (mkF mM 152 Ls231 [(.int x0), (.int (0 : Int32)), (.ref b237), (.ref b237), (.ref b232), (.ref b232)])) _
      refine st242 _ ?_
      show Steps pP.tables eE below (T242.setTop (mkF mM 153 Ls231 [(.ref b237), (.ref b232), (.ref b232)])) _
      refine XS.dup X242.here hx rfl (hb hby at_153) rfl rfl ?_
      show Steps pP.tables eE below (T242.setTop (mkF mM 154 Ls231 [(.ref b237), (.ref b237), (.ref b232), (.ref b232)])) _
      refine XS.iconst X242.here hx rfl (hb hby at_154) ?_
      show Steps pP.tables eE below (T242.setTop (mkF mM 155 Ls231 [(.int (1 : Int32)), (.ref b237), (.ref b237), (.ref b232), (.ref b232)])) _
      refine XS.iload X242.here hx rfl (hb hby at_155) rfl ?_
      show Steps pP.tables eE below (T242.setTop (mkF mM 157 Ls231 [(.int x1), (.int (1 : Int32)), (.ref b237), (.ref b237), (.ref b232), (.ref b232)])) _
      refine st248 _ ?_
      show Steps pP.tables eE below (T248.setTop (mkF mM 158 Ls231 [(.ref b237), (.ref b232), (.ref b232)])) _
      refine XS.dup X248.here hx rfl (hb hby at_158) rfl rfl ?_
      show Steps pP.tables eE below (T248.setTop (mkF mM 159 Ls231 [(.ref b237), (.ref b237), (.ref b232), (.ref b232)])) _
      refine XS.iconst X248.here hx rfl (hb hby at_159) ?_
      show Steps pP.tables eE below (T248.setTop (mkF mM 160 Ls231 [(.int (2 : Int32)), (.ref b237), (.ref b237), (.ref b232), (.ref b232)])) _
      refine XS.iload X248.here hx rfl (hb hby at_160) rfl ?_
      show Steps pP.tables eE below (T248.setTop (mkF mM 162 Ls231 [(.int x2), (.int (2 : Int32)), (.ref b237), (.ref b237), (.ref b232), (.ref b232)])) _
      refine st254 _ ?_
      show Steps pP.tables eE below (T254.setTop (mkF mM 163 Ls231 [(.ref b237), (.ref b232), (.ref b232)])) _
      refine st264.trans ?_
      show Steps pP.tables eE below (T264.setTop (mkF mM 166 Ls231 [(.ref b232)])) _
      refine XS.astore X264.here hx rfl (hb hby at_166) rfl rfl (l' := Ls270) rfl ?_
      show Steps pP.tables eE below (T264.setTop (mkF mM 168 Ls270 [])) _
      refine XS.goto X264.here hx rfl (pc0 := 168) (pc' := 203) rfl (hb hby at_168) (by decide) (by decide) ?_
      show Steps pP.tables eE below (T264.setTop (mkF mM 203 Ls270 [])) _
      refine st271 _ ?_
      show Steps pP.tables eE below (T271.setTop (mkF mM 206 Ls270 [(.ref b271)])) _
      refine XS.dup X271.here hx rfl (hb hby at_206) rfl rfl ?_
      show Steps pP.tables eE below (T271.setTop (mkF mM 207 Ls270 [(.ref b271), (.ref b271)])) _
      refine XS.aload X271.here hx rfl (hb hby at_207) rfl rfl ?_
      show Steps pP.tables eE below (T271.setTop (mkF mM 209 Ls270 [(.ref b232), (.ref b271), (.ref b271)])) _
      refine XS.lload X271.here hx rfl (hb hby at_209) rfl ?_
      show Steps pP.tables eE below (T271.setTop (mkF mM 211 Ls270 [(.long p5), (.ref b232), (.ref b271), (.ref b271)])) _
      refine st278.trans ?_
      show Steps pP.tables eE below (T278.setTop (mkF mM 214 Ls270 [(.ref b271)])) _
      refine XS.astore X278.here hx rfl (hb hby at_214) rfl rfl (l' := Ls282) rfl ?_
      show Steps pP.tables eE below (T278.setTop (mkF mM 216 Ls282 [])) _
      refine XS.aload X278.here hx rfl (hb hby at_216) rfl rfl ?_
      show Steps pP.tables eE below (T278.setTop (mkF mM 218 Ls282 [(.ref b271)])) _
      refine st288.trans ?_
      show Steps pP.tables eE below (T288.setTop (mkF mM 221 Ls282 [(.ref r_288)])) _
      refine XS.astore X288.here hx rfl (hb hby at_221) rfl rfl (l' := Ls292) rfl ?_
      show Steps pP.tables eE below (T288.setTop (mkF mM 223 Ls292 [])) _
      refine XS.iconst X288.here hx rfl (hb hby at_223) ?_
      show Steps pP.tables eE below (T288.setTop (mkF mM 224 Ls292 [(.int (-1 : Int32))])) _
      refine XS.istore X288.here hx rfl (hb hby at_224) rfl (l' := Ls293) rfl ?_
      show Steps pP.tables eE below (T288.setTop (mkF mM 226 Ls293 [])) _
      refine st294 _ ?_
      show Steps pP.tables eE below (T294.setTop (mkF mM 241 Ls298 [])) _
      refine st299 _ ?_
      show Steps pP.tables eE below (T299.setTop (mkF mM 257 Ls303 [])) _
      refine st304 _ ?_
      show Steps pP.tables eE below (T304.setTop (mkF mM 273 Ls308 [])) _
      refine XS.iload X304.here hx rfl (hb hby at_273) rfl ?_
      show Steps pP.tables eE below (T304.setTop (mkF mM 275 Ls308 [(.int (3 : Int32))])) _
      refine XS.iconst X304.here hx rfl (hb hby at_275) ?_
      show Steps pP.tables eE below (T304.setTop (mkF mM 276 Ls308 [(.int (3 : Int32)), (.int (3 : Int32))])) _
      refine XS.icmpYes X304.here hx rfl (pc0 := 276) (pc' := 289) rfl (hb hby at_276) rfl (flt (by decide : ¬ ((3 : Int32) < (3 : Int32)))).2.2.2 (by decide) (by decide) ?_
      show Steps pP.tables eE below (T304.setTop (mkF mM 289 Ls308 [])) _
      refine XS.aload X304.here hx rfl (hb hby at_289) rfl rfl ?_
      show Steps pP.tables eE below (T304.setTop (mkF mM 291 Ls308 [(.ref r_288)])) _
      refine XS.ifnonnullYes X304.here hx rfl (pc0 := 291) (pc' := 296) rfl (hb hby at_291) rfl (by decide) (by decide) ?_
      show Steps pP.tables eE below (T304.setTop (mkF mM 296 Ls308 [])) _
      refine XS.aload X304.here hx rfl (hb hby at_296) rfl rfl ?_
      show Steps pP.tables eE below (T304.setTop (mkF mM 298 Ls308 [(.ref r_288)])) _
      refine st310.trans ?_
      show Steps pP.tables eE below (T310.setTop (mkF mM 301 Ls308 [(.int (Int32.ofNat (([x0, x1, x2].drop (own_ln [x0, x1, x2] (47 : Int32) [x0, x1, x2].length))).length))])) _
      refine XS.iload X310.here hx rfl (hb hby at_301) rfl ?_
      show Steps pP.tables eE below (T310.setTop (mkF mM 303 Ls308 [(.int (3 : Int32)), (.int (Int32.ofNat (([x0, x1, x2].drop (own_ln [x0, x1, x2] (47 : Int32) [x0, x1, x2].length))).length))])) _
      refine XS.iload X310.here hx rfl (hb hby at_303) rfl ?_
      show Steps pP.tables eE below (T310.setTop (mkF mM 305 Ls308 [(.int (own_lx ([x0, x1, x2] : List Int32) (47 : Int32) (2 + 1))), (.int (3 : Int32)), (.int (Int32.ofNat (([x0, x1, x2].drop (own_ln [x0, x1, x2] (47 : Int32) [x0, x1, x2].length))).length))])) _
      refine XS.isub X310.here hx rfl (hb hby at_305) rfl ?_
      show Steps pP.tables eE below (T310.setTop (mkF mM 306 Ls308 [(.int ((3 : Int32) - (own_lx ([x0, x1, x2] : List Int32) (47 : Int32) (2 + 1)))), (.int (Int32.ofNat (([x0, x1, x2].drop (own_ln [x0, x1, x2] (47 : Int32) [x0, x1, x2].length))).length))])) _
      refine XS.iconst X310.here hx rfl (hb hby at_306) ?_
      show Steps pP.tables eE below (T310.setTop (mkF mM 307 Ls308 [(.int (1 : Int32)), (.int ((3 : Int32) - (own_lx ([x0, x1, x2] : List Int32) (47 : Int32) (2 + 1)))), (.int (Int32.ofNat (([x0, x1, x2].drop (own_ln [x0, x1, x2] (47 : Int32) [x0, x1, x2].length))).length))])) _
      refine XS.isub X310.here hx rfl (hb hby at_307) rfl ?_
      show Steps pP.tables eE below (T310.setTop (mkF mM 308 Ls308 [(.int (((3 : Int32) - (own_lx ([x0, x1, x2] : List Int32) (47 : Int32) (2 + 1))) - (1 : Int32))), (.int (Int32.ofNat (([x0, x1, x2].drop (own_ln [x0, x1, x2] (47 : Int32) [x0, x1, x2].length))).length))])) _
      refine XS.icmpYes X310.here hx rfl (pc0 := 308) (pc' := 313) rfl (hb hby at_308) rfl (teq (own_lenk ([x0, x1, x2] : List Int32) (47 : Int32) (Nat.le_of_ble_eq_true rfl))).1 (by decide) (by decide) ?_
      show Steps pP.tables eE below (T310.setTop (mkF mM 313 Ls308 [])) _
      refine XS.aload X310.here hx rfl (hb hby at_313) rfl rfl ?_
      show Steps pP.tables eE below (T310.setTop (mkF mM 315 Ls308 [(.ref r_288)])) _
      refine XS.aload X310.here hx rfl (hb hby at_315) rfl rfl ?_
      show Steps pP.tables eE below (T310.setTop (mkF mM 317 Ls308 [(.ref b10), (.ref r_288)])) _
      refine XS.iload X310.here hx rfl (hb hby at_317) rfl ?_
      show Steps pP.tables eE below (T310.setTop (mkF mM 319 Ls308 [(.int (own_lx ([x0, x1, x2] : List Int32) (47 : Int32) (2 + 1))), (.ref b10), (.ref r_288)])) _
      refine XS.iload X310.here hx rfl (hb hby at_319) rfl ?_
      show Steps pP.tables eE below (T310.setTop (mkF mM 321 Ls308 [(.int (3 : Int32)), (.int (own_lx ([x0, x1, x2] : List Int32) (47 : Int32) (2 + 1))), (.ref b10), (.ref r_288)])) _
      refine XS.iconst X310.here hx rfl (hb hby at_321) ?_
      show Steps pP.tables eE below (T310.setTop (mkF mM 322 Ls308 [(.int (0 : Int32)), (.int (3 : Int32)), (.int (own_lx ([x0, x1, x2] : List Int32) (47 : Int32) (2 + 1))), (.ref b10), (.ref r_288)])) _
      refine st312 _ ?_
      show Steps pP.tables eE below (T312.setTop (mkF mM 325 Ls308 [(.int (1 : Int32))])) _
      refine XS.ifNo X312.here hx rfl (hb hby at_325) rfl ((if0 _ _).trans (feq (by decide : ¬ ((1 : Int32) = (0 : Int32)))).1) ?_
      show Steps pP.tables eE below (T312.setTop (mkF mM 328 Ls308 [])) _
      refine XS.aload X312.here hx rfl (hb hby at_328) rfl rfl ?_
      show Steps pP.tables eE below (T312.setTop (mkF mM 330 Ls308 [(.ref r_288)])) _
      refine XS.aload X312.here hx rfl (hb hby at_330) rfl rfl ?_
      show Steps pP.tables eE below (T312.setTop (mkF mM 332 Ls308 [(.ref b10), (.ref r_288)])) _
      refine XS.iload X312.here hx rfl (hb hby at_332) rfl ?_
      show Steps pP.tables eE below (T312.setTop (mkF mM 334 Ls308 [(.int (own_lx ([x0, x1, x2] : List Int32) (47 : Int32) (2 + 1))), (.ref b10), (.ref r_288)])) _
      refine XS.iload X312.here hx rfl (hb hby at_334) rfl ?_
      show Steps pP.tables eE below (T312.setTop (mkF mM 336 Ls308 [(.int (3 : Int32)), (.int (own_lx ([x0, x1, x2] : List Int32) (47 : Int32) (2 + 1))), (.ref b10), (.ref r_288)])) _
      refine XS.iconst X312.here hx rfl (hb hby at_336) ?_
      show Steps pP.tables eE below (T312.setTop (mkF mM 337 Ls308 [(.int (1 : Int32)), (.int (3 : Int32)), (.int (own_lx ([x0, x1, x2] : List Int32) (47 : Int32) (2 + 1))), (.ref b10), (.ref r_288)])) _
      refine st313 _ ?_
      show Steps pP.tables eE below (T313.setTop (mkF mM 340 Ls308 [(.int (1 : Int32))])) _
      refine XS.ifNo X313.here hx rfl (hb hby at_340) rfl ((if0 _ _).trans (feq (by decide : ¬ ((1 : Int32) = (0 : Int32)))).1) ?_
      show Steps pP.tables eE below (T313.setTop (mkF mM 343 Ls308 [])) _
      refine XS.aload X313.here hx rfl (hb hby at_343) rfl rfl ?_
      show Steps pP.tables eE below (T313.setTop (mkF mM 345 Ls308 [(.ref r_288)])) _
      refine XS.aload X313.here hx rfl (hb hby at_345) rfl rfl ?_
      show Steps pP.tables eE below (T313.setTop (mkF mM 347 Ls308 [(.ref b10), (.ref r_288)])) _
      refine XS.iload X313.here hx rfl (hb hby at_347) rfl ?_
      show Steps pP.tables eE below (T313.setTop (mkF mM 349 Ls308 [(.int (own_lx ([x0, x1, x2] : List Int32) (47 : Int32) (2 + 1))), (.ref b10), (.ref r_288)])) _
      refine XS.iload X313.here hx rfl (hb hby at_349) rfl ?_
      show Steps pP.tables eE below (T313.setTop (mkF mM 351 Ls308 [(.int (3 : Int32)), (.int (own_lx ([x0, x1, x2] : List Int32) (47 : Int32) (2 + 1))), (.ref b10), (.ref r_288)])) _
      refine XS.iconst X313.here hx rfl (hb hby at_351) ?_
      show Steps pP.tables eE below (T313.setTop (mkF mM 352 Ls308 [(.int (2 : Int32)), (.int (3 : Int32)), (.int (own_lx ([x0, x1, x2] : List Int32) (47 : Int32) (2 + 1))), (.ref b10), (.ref r_288)])) _
      refine st314 _ ?_
      show Steps pP.tables eE below (T314.setTop (mkF mM 355 Ls308 [(.int (1 : Int32))])) _
      refine XS.ifNo X314.here hx rfl (hb hby at_355) rfl ((if0 _ _).trans (feq (by decide : ¬ ((1 : Int32) = (0 : Int32)))).1) ?_
      show Steps pP.tables eE below (T314.setTop (mkF mM 358 Ls308 [])) _
      refine XS.aload X314.here hx rfl (hb hby at_358) rfl rfl ?_
      show Steps pP.tables eE below (T314.setTop (mkF mM 360 Ls308 [(.ref r_288)])) _
      refine XS.aload X314.here hx rfl (hb hby at_360) rfl rfl ?_
      show Steps pP.tables eE below (T314.setTop (mkF mM 362 Ls308 [(.ref b10), (.ref r_288)])) _
      refine XS.iload X314.here hx rfl (hb hby at_362) rfl ?_
      show Steps pP.tables eE below (T314.setTop (mkF mM 364 Ls308 [(.int (own_lx ([x0, x1, x2] : List Int32) (47 : Int32) (2 + 1))), (.ref b10), (.ref r_288)])) _
      refine XS.iload X314.here hx rfl (hb hby at_364) rfl ?_
      show Steps pP.tables eE below (T314.setTop (mkF mM 366 Ls308 [(.int (3 : Int32)), (.int (own_lx ([x0, x1, x2] : List Int32) (47 : Int32) (2 + 1))), (.ref b10), (.ref r_288)])) _
      refine XS.iconst X314.here hx rfl (hb hby at_366) ?_
      show Steps pP.tables eE below (T314.setTop (mkF mM 367 Ls308 [(.int (3 : Int32)), (.int (3 : Int32)), (.int (own_lx ([x0, x1, x2] : List Int32) (47 : Int32) (2 + 1))), (.ref b10), (.ref r_288)])) _
      refine st315 _ ?_
      show Steps pP.tables eE below (T315.setTop (mkF mM 370 Ls308 [(.int (1 : Int32))])) _
      refine XS.ifNo X315.here hx rfl (hb hby at_370) rfl ((if0 _ _).trans (feq (by decide : ¬ ((1 : Int32) = (0 : Int32)))).1) ?_
      show Steps pP.tables eE below (T315.setTop (mkF mM 373 Ls308 [])) _
      refine XS.iconst X315.here hx rfl (hb hby at_373) ?_
      show Steps pP.tables eE below (T315.setTop (mkF mM 374 Ls308 [(.int (1 : Int32))])) _
      refine XS.goto X315.here hx rfl (pc0 := 374) (pc' := 378) rfl (hb hby at_374) (by decide) (by decide) ?_
      show Steps pP.tables eE below (T315.setTop (mkF mM 378 Ls308 [(.int (1 : Int32))])) _
      exact retN X315 hx (t := .boolean) Bd.returns (by simp) (hb hby at_378) hr
    · show Q_law Z p0 p1 p2 p3 p4 p5 zc fm h0 n0 _ T315.heap _
      rw [Kq315]
      exact ⟨rfl, N288, K291⟩
    · show CHr Z own_EL sS.vm sS.heap T315.vm T315.heap
      rw [hh, Kq315]
      exact CH289.trans (CHv.at X315 hZ288 hEL CH289.1)
  · let Ls317 : Array Slot := #[.val (.int p0), .val (.int p1), .val (.int p2), .val (.int p3), .val (.int p4), .val (.long p5), .second, .val (.int (4 : Int32)), .val (.int x0), .val (.int x1), .val (.int x2), .val (.int x3), .val (.ref b10), .unset, .unset, .unset, .unset]
    have hcs : ∀ c ∈ ([x0, x1, x2, x3] : List Int32), ¬ c < 0 ∧ ¬ (255 : Int32) < c := by
      intro c hc
      simp only [List.mem_cons, List.not_mem_nil, or_false] at hc
      rcases hc with rfl | rfl | rfl | rfl
      all_goals first | exact hxb0 | exact hxb1 | exact hxb2 | exact hxb3
    obtain ⟨T318, h318, X318, e318, E318, A318, D318, -, st318⟩ := newO X32 hx hZ0 hown0 (w_5 hw) (w_6 hw) (w_7 hw) e32 (g := (mkF mM 171 Ls317 [])) rfl (hb hby at_171) (by decide) (by decide)
    obtain ⟨b318, g318⟩ : ∃ z, z = h32.size := ⟨_, rfl⟩
    rw [← g318] at A318 D318 st318
    have Sn_b318 : Safe Z own_EL sS.vm h32 b318 := Safe.new (Nat.le_of_eq g318.symm)
    have f319 := (((((O0.ext E10).wr W14 g_b10).wr W20 g_b10).wr W26 g_b10).wr W32 g_b10)
    have g_b318 : n0 ≤ b318 := Nat.le_trans (own_osz f319) (Nat.le_of_eq g318.symm)
    have sz_b318 : h0.size ≤ b318 := Nat.le_trans K37.1 (Nat.le_of_eq g318.symm)
    have CH320 : CHr Z own_EL sS.vm h0 sS.vm h318 := CH33.trans (CHr.ext E318 CH33.1)
    have hk321 := Nat.le_trans hk36 E318.1
    have K322 : Keep h0 h318 [] := K37.ext E318
    have F_b318_value : Fld Z h318 b318 "java/lang/String" "value" "[B" .null := D318 (Or.inr (w_20 hw)) (ty := (.array .byte)) (by decide)
    have F_b318_coder : Fld Z h318 b318 "java/lang/String" "coder" "B" (.int (0 : Int32)) := D318 (Or.inr (w_21 hw)) (ty := .byte) (by decide)
    obtain ⟨T323, h323, k323, X323, e323, E323, A323, st323⟩ := newP X318 hx hZ0 (aty := .char) (w_4 hw) e318 (g := (mkF mM 176 Ls317 [(.int (4 : Int32)), (.ref b318), (.ref b318)])) rfl (hb hby at_176) rfl (by decide) (cap := 4) (by decide) (by decide) (by decide) (by decide)
    obtain ⟨b323, g323⟩ : ∃ z, z = h318.size := ⟨_, rfl⟩
    rw [← g323] at A323 st323
    have Sn_b323 : Safe Z own_EL sS.vm h318 b323 := Safe.new (Nat.le_of_eq g323.symm)
    have f324 := (f319.ext E318)
    have g_b323 : n0 ≤ b323 := Nat.le_trans (own_osz f324) (Nat.le_of_eq g323.symm)
    have sz_b323 : h0.size ≤ b323 := Nat.le_trans K322.1 (Nat.le_of_eq g323.symm)
    have CH325 : CHr Z own_EL sS.vm h0 sS.vm h323 := CH320.trans (CHr.ext E323 CH320.1)
    have hk326 := Nat.le_trans hk321 E323.1
    have K327 : Keep h0 h323 [] := K322.ext E323
    have V323 : Arv Z h323 b323 k323 .char (4 : Int32) [(.int (0 : Int32)), (.int (0 : Int32)), (.int (0 : Int32)), (.int (0 : Int32))] (.int (0 : Int32)) := (Arv.new A323 (by decide)).pad (pad_rep [] (.int (0 : Int32)) 4)
    obtain ⟨cl328, Ar328, qk328, S328, Nn328, Hh328, G328⟩ := id V323
    have hin328 : ¬ ((0 : Int32) < 0 ∨ cl328.slots.size ≤ ((0 : Int32)).toNatClampNeg) := inb_of S328 ⟨by decide, by decide⟩
    obtain ⟨T328, h328, X328, e328, W328, st328⟩ := stC X323 hx hZ0 e323 Ar328 (j := (0 : Int32)) hin328 (g := (mkF mM 182 Ls317 [(.int x0), (.int (0 : Int32)), (.ref b323), (.ref b323), (.ref b318), (.ref b318)])) rfl rfl (hb hby at_182)
    rw [own_nc hxb0] at W328
    have f331 := (Safe.ext E323 CH320.1 Sn_b323)
    have sfp330 := f331
    have CH329 : CHr Z own_EL sS.vm h0 sS.vm h328 := CH325.trans (CHr.wr W328 sfp330 CH325.1)
    have hk332 := Nat.le_trans hk326 (Nat.le_of_eq W328.size.symm)
    have K333 : Keep h0 h328 [] := K327.wr W328 (Or.inr sz_b323)
    have V328 : Arv Z h328 b323 k323 .char (4 : Int32) [(.int x0), (.int (0 : Int32)), (.int (0 : Int32)), (.int (0 : Int32))] (.int (0 : Int32)) := Arv.set Ar328 qk328 S328 Nn328 Hh328 G328 (own_nc hxb0 ▸ fits_nar_char _) W328 0 rfl (Nat.le_of_ble_eq_true rfl)
    have N328 := Fr.snoc X328 N32 g_b323
    obtain ⟨cl334, Ar334, qk334, S334, Nn334, Hh334, G334⟩ := id V328
    have hin334 : ¬ ((1 : Int32) < 0 ∨ cl334.slots.size ≤ ((1 : Int32)).toNatClampNeg) := inb_of S334 ⟨by decide, by decide⟩
    obtain ⟨T334, h334, X334, e334, W334, st334⟩ := stC X328 hx hZ0 e328 Ar334 (j := (1 : Int32)) hin334 (g := (mkF mM 187 Ls317 [(.int x1), (.int (1 : Int32)), (.ref b323), (.ref b323), (.ref b318), (.ref b318)])) rfl rfl (hb hby at_187)
    rw [own_nc hxb1] at W334
    have f337 := (Safe.wr W328 sfp330 CH325.1 f331)
    have sfp336 := f337
    have CH335 : CHr Z own_EL sS.vm h0 sS.vm h334 := CH329.trans (CHr.wr W334 sfp336 CH329.1)
    have hk338 := Nat.le_trans hk332 (Nat.le_of_eq W334.size.symm)
    have K339 : Keep h0 h334 [] := K333.wr W334 (Or.inr sz_b323)
    have V334 : Arv Z h334 b323 k323 .char (4 : Int32) [(.int x0), (.int x1), (.int (0 : Int32)), (.int (0 : Int32))] (.int (0 : Int32)) := Arv.set Ar334 qk334 S334 Nn334 Hh334 G334 (own_nc hxb1 ▸ fits_nar_char _) W334 1 rfl (Nat.le_of_ble_eq_true rfl)
    have N334 := Fr.snoc X334 N328 g_b323
    obtain ⟨cl340, Ar340, qk340, S340, Nn340, Hh340, G340⟩ := id V334
    have hin340 : ¬ ((2 : Int32) < 0 ∨ cl340.slots.size ≤ ((2 : Int32)).toNatClampNeg) := inb_of S340 ⟨by decide, by decide⟩
    obtain ⟨T340, h340, X340, e340, W340, st340⟩ := stC X334 hx hZ0 e334 Ar340 (j := (2 : Int32)) hin340 (g := (mkF mM 192 Ls317 [(.int x2), (.int (2 : Int32)), (.ref b323), (.ref b323), (.ref b318), (.ref b318)])) rfl rfl (hb hby at_192)
    rw [own_nc hxb2] at W340
    have f343 := (Safe.wr W334 sfp336 CH329.1 f337)
    have sfp342 := f343
    have CH341 : CHr Z own_EL sS.vm h0 sS.vm h340 := CH335.trans (CHr.wr W340 sfp342 CH335.1)
    have hk344 := Nat.le_trans hk338 (Nat.le_of_eq W340.size.symm)
    have K345 : Keep h0 h340 [] := K339.wr W340 (Or.inr sz_b323)
    have V340 : Arv Z h340 b323 k323 .char (4 : Int32) [(.int x0), (.int x1), (.int x2), (.int (0 : Int32))] (.int (0 : Int32)) := Arv.set Ar340 qk340 S340 Nn340 Hh340 G340 (own_nc hxb2 ▸ fits_nar_char _) W340 2 rfl (Nat.le_of_ble_eq_true rfl)
    have N340 := Fr.snoc X340 N334 g_b323
    obtain ⟨cl346, Ar346, qk346, S346, Nn346, Hh346, G346⟩ := id V340
    have hin346 : ¬ ((3 : Int32) < 0 ∨ cl346.slots.size ≤ ((3 : Int32)).toNatClampNeg) := inb_of S346 ⟨by decide, by decide⟩
    obtain ⟨T346, h346, X346, e346, W346, st346⟩ := stC X340 hx hZ0 e340 Ar346 (j := (3 : Int32)) hin346 (g := (mkF mM 197 Ls317 [(.int x3), (.int (3 : Int32)), (.ref b323), (.ref b323), (.ref b318), (.ref b318)])) rfl rfl (hb hby at_197)
    rw [own_nc hxb3] at W346
    have f349 := (Safe.wr W340 sfp342 CH335.1 f343)
    have sfp348 := f349
    have CH347 : CHr Z own_EL sS.vm h0 sS.vm h346 := CH341.trans (CHr.wr W346 sfp348 CH341.1)
    have hk350 := Nat.le_trans hk344 (Nat.le_of_eq W346.size.symm)
    have K351 : Keep h0 h346 [] := K345.wr W346 (Or.inr sz_b323)
    have V346 : Arv Z h346 b323 k323 .char (4 : Int32) [(.int x0), (.int x1), (.int x2), (.int x3)] (.int (0 : Int32)) := Arv.set Ar346 qk346 S346 Nn346 Hh346 G346 (own_nc hxb3 ▸ fits_nar_char _) W346 3 rfl (Nat.le_of_ble_eq_true rfl)
    have N346 := Fr.snoc X346 N340 g_b323
    have f352 := (((((f324.ext E323).wr W328 g_b323).wr W334 g_b323).wr W340 g_b323).wr W346 g_b323)
    have f353 := (((((A318.ext E323).wr W328).wr W334).wr W340).wr W346)
    have f354 := (((((F_b318_value.ext E323).other W328 (Or.inl (Nat.ne_of_lt (Nat.lt_of_lt_of_le (A318).lt (Nat.le_of_eq g323.symm))))).other W334 (Or.inl (Nat.ne_of_lt (Nat.lt_of_lt_of_le (A318).lt (Nat.le_of_eq g323.symm))))).other W340 (Or.inl (Nat.ne_of_lt (Nat.lt_of_lt_of_le (A318).lt (Nat.le_of_eq g323.symm))))).other W346 (Or.inl (Nat.ne_of_lt (Nat.lt_of_lt_of_le (A318).lt (Nat.le_of_eq g323.symm)))))
    have f355 := (((((F_b318_coder.ext E323).other W328 (Or.inl (Nat.ne_of_lt (Nat.lt_of_lt_of_le (A318).lt (Nat.le_of_eq g323.symm))))).other W334 (Or.inl (Nat.ne_of_lt (Nat.lt_of_lt_of_le (A318).lt (Nat.le_of_eq g323.symm))))).other W340 (Or.inl (Nat.ne_of_lt (Nat.lt_of_lt_of_le (A318).lt (Nat.le_of_eq g323.symm))))).other W346 (Or.inl (Nat.ne_of_lt (Nat.lt_of_lt_of_le (A318).lt (Nat.le_of_eq g323.symm)))))
    obtain ⟨_, _, ⟨T356, L356, k356, n356⟩, -, X356, ⟨Lc356, hQ356, l356, y356, z356⟩, st356⟩ := X346.specialBack hx (y := (⟨"java/lang/String", "<init>", "([C)V"⟩ : MethodName)) rfl hown0 (mvT hZ0 (w_8 hw)) (mvT hZ0 (w_9 hw)) (mvT hZ0 (w_10 hw)) (by decide) (own_new (W := 1) hZ0 hw (cs := [x0, x1, x2, x3]) (n := 4) g_b318 (own_osz f352) f353 f354 f355 V346 (Sta.ext (f352).2 S_COMPACT_STRINGS) hp1 rfl rfl (by decide) (by decide) hcs (by decide) (by decide)) (g := (mkF mM 198 Ls317 [(.ref b323), (.ref b318), (.ref b318)])) rfl (by rw [hml]; rfl) (Steps.refl _) (a := b318) (argsL := [(.ref b323)]) (rest := [(.ref b318)]) (lenOf pd_17 rfl) rfl (by show 2 * 0 + _ ≤ _; exact Nat.le_of_eq rfl) (hb hby at_198) (fun _ _ => ⟨rfl, e346, (by decide : 3 + 1 ≤ _), (by decide : 12 + 4 ≤ _)⟩)
    dsimp only [Pt.U, Pt.locs, Pt.cells, Pt.slots] at X356 l356 y356 z356 st356 hQ356
    subst l356 y356 z356
    obtain ⟨rfl, Nq356, Kq356, t356, kb356, hs356, Sq356⟩ := hQ356
    have N356 := Fr.app N346 Nq356
    have g_t356 : n0 ≤ t356 := Nat.le_trans (own_osz f352) hs356
    have sz_t356 : h0.size ≤ t356 := Nat.le_trans K351.1 hs356
    have f358 := (Safe.wr W346 sfp348 CH341.1 (Safe.wr W340 sfp342 CH335.1 (Safe.wr W334 sfp336 CH329.1 (Safe.wr W328 sfp330 CH325.1 (Safe.ext E323 CH320.1 (Safe.ext E318 CH33.1 Sn_b318))))))
    have sfp359 := (sfS f358 sf0)
    have CH357 : CHr Z own_EL sS.vm h0 sS.vm T356.heap := CH347.trans (CHr.keep Kq356 sfp359 CH347.1)
    have hk360 := Nat.le_trans hk350 Kq356.1
    have K361 : Keep h0 T356.heap [] := K351.trans Kq356 (allS (Or.inr sz_b318) all0)
    let Ls362 : Array Slot := #[.val (.int p0), .val (.int p1), .val (.int p2), .val (.int p3), .val (.int p4), .val (.long p5), .second, .val (.int (4 : Int32)), .val (.int x0), .val (.int x1), .val (.int x2), .val (.int x3), .val (.ref b10), .val (.ref b318), .unset, .unset, .unset]
    obtain ⟨T363, h363, X363, e363, E363, A363, D363, -, st363⟩ := newO X356 hx hZ0 hown0 (w_26 hw) (w_27 hw) (w_28 hw) rfl (g := (mkF mM 203 Ls362 [])) rfl (hb hby at_203) (by decide) (by decide)
    obtain ⟨b363, g363⟩ : ∃ z, z = T356.heap.size := ⟨_, rfl⟩
    rw [← g363] at A363 D363 st363
    have Sn_b363 : Safe Z own_EL sS.vm T356.heap b363 := Safe.new (Nat.le_of_eq g363.symm)
    have f364 := (f352.keep Kq356 (allS g_b318 all0))
    have g_b363 : n0 ≤ b363 := Nat.le_trans (own_osz f364) (Nat.le_of_eq g363.symm)
    have sz_b363 : h0.size ≤ b363 := Nat.le_trans K361.1 (Nat.le_of_eq g363.symm)
    have CH365 : CHr Z own_EL sS.vm h0 sS.vm h363 := CH357.trans (CHr.ext E363 CH357.1)
    have hk366 := Nat.le_trans hk360 E363.1
    have K367 : Keep h0 h363 [] := K361.ext E363
    have F_b363__path : Fld Z h363 b363 "com/example/ullr/ullr/files/ListedFile" "_path" "Ljava/lang/String;" .null := D363 (Or.inr (w_40 hw)) (ty := (.object "java/lang/String")) (by decide)
    have F_b363__bytes : Fld Z h363 b363 "com/example/ullr/ullr/files/ListedFile" "_bytes" "J" (.long (0 : Int64)) := D363 (Or.inr (w_42 hw)) (ty := .long) (by decide)
    have f368 := ((Sq356).1.ext E363)
    have f369 := (f364.ext E363)
    obtain ⟨_, _, ⟨T370, L370, k370, n370⟩, -, X370, hS2370, hg2370, ⟨Lc370, hQ370, l370, y370, z370, CHl370⟩, st370⟩ := X363.specialBackS hx (y := (⟨"com/example/ullr/ullr/files/ListedFile", "<init>", "(Ljava/lang/String;J)V"⟩ : MethodName)) rfl hown0 (mvT hZ0 (w_29 hw)) (mvT hZ0 (w_30 hw)) (mvT hZ0 (w_31 hw)) (by decide) (own_backOfSH (s := sS) (vm0 := sS.vm) (rm := ({ frames := 1, cells := 2, slots := 20, locals := 14 } : Room)) (W := 1) (rm_fini l Z a0 hw [] b363 b318 p5 .null (.long (0 : Int64)) h363 n0 f369 A363 F_b363__path F_b363__bytes g_b363 f368) hZ0 (w_31 hw) (w_28 hw) (by decide) (by decide) hEL CH365.1 own_sf0) (g := (mkF mM 211 Ls362 [(.long p5), (.ref b318), (.ref b363), (.ref b363)])) rfl (by rw [hml]; rfl) (Steps.refl _) (a := b363) (argsL := [(.ref b318), (.long p5)]) (rest := [(.ref b363)]) (lenOf pd_18 rfl) rfl (by show 2 * 0 + _ ≤ _; exact Nat.le_of_eq rfl) (hb hby at_211) (fun _ _ => ⟨rfl, e363, (by decide : 5 + 2 ≤ _), (by decide : 18 + 20 ≤ _)⟩)
    dsimp only [Pt.U, Pt.locs, Pt.cells, Pt.slots] at X370 l370 y370 z370 st370 hQ370 hS2370 hg2370 CHl370
    subst l370 y370 z370
    have hS370 := foldS hS0 (by rw [e363]; exact hk366) hS2370 hg2370
    have hZ370 : Z.Warmed39 (sS.setVm T370.vm).vm := State.Warmed39.trans (t := sS.setVm sS.vm) hZ0 hS2370.1
    have hown370 : (sS.setVm T370.vm).vm.findClass "com/example/ullr/ullr/files/ListedFileNamePinLaw" = some mM.cls := by rw [show (sS.setVm T370.vm).vm = T370.vm from rfl, hS2370.1.alike.findClass]; exact hown0
    have hk370 : T370.heap.size ≤ T370.heap.size := Nat.le_refl _
    replace X370 : Stand pP l eE room_1 (sS.setVm T370.vm) mM _ below meth cC T370 _ _ _ := X370
    obtain ⟨rfl, Nq370, Kq370, q370_0, q370_1⟩ := hQ370
    have N370 := Fr.app N356 Nq370
    have CH371 : CHr Z own_EL sS.vm h0 T370.vm T370.heap := CH365.trans (CHl370)
    skip
    have K373 : Keep h0 T370.heap [] := K367.trans Kq370 (allS (Or.inr sz_b363) all0)
    let Ls374 : Array Slot := #[.val (.int p0), .val (.int p1), .val (.int p2), .val (.int p3), .val (.int p4), .val (.long p5), .second, .val (.int (4 : Int32)), .val (.int x0), .val (.int x1), .val (.int x2), .val (.int x3), .val (.ref b10), .val (.ref b318), .val (.ref b363), .unset, .unset]
    have f375 := (f368.keep Kq370)
    have f376 := (((Sq356).2.1.ext E363).keep Kq370 (ninS (Nat.ne_of_lt (Nat.lt_of_lt_of_le ((Sq356).1).lt (Nat.le_of_eq g363.symm))) nin0))
    have f377 := (((Sq356).2.2.1.ext E363).keep Kq370 (ninS (Nat.ne_of_lt (Nat.lt_of_lt_of_le ((Sq356).1).lt (Nat.le_of_eq g363.symm))) nin0))
    have f378 := (((Sq356).2.2.2.1.ext E363).keep Kq370 (ninS (Nat.ne_of_lt (Nat.lt_of_lt_of_le ((Sq356).2.2.2.1).lt (Nat.le_of_eq g363.symm))) nin0))
    have f379 := (f369.keep Kq370 (allS g_b363 all0))
    obtain ⟨cq380, kq380, q380a, q380b, q380c⟩ := isOf hZ370 rfl q370_0
    obtain ⟨_, _, ⟨T380, L380, k380, n380⟩, -, X380, hS2380, hg2380, ⟨Lc380, hQ380, l380, y380, z380, CHl380⟩, st380⟩ := X370.virtualBackS hx (y := (⟨"com/example/ullr/ullr/files/ListedFile", "name", "()Ljava/lang/String;"⟩ : MethodName)) (z := (⟨"com/example/ullr/ullr/files/ListedFile", "name", "()Ljava/lang/String;"⟩ : MethodName)) hown370 (mvT hZ370 (w_43 hw)) (mvT hZ370 (w_44 hw)) (notFace_of_selects (args := #[]) (mvT hZ370 (w_46 hw))) (mvT hZ370 (w_46 hw)) (mvT hZ370 (w_45 hw)) (by decide) (own_backOfSH (s := sS) (vm0 := T370.vm) (rm := ({ frames := 6, cells := 2, slots := 12, locals := 93 } : Room)) (W := 0) (rm_name l Z a0 hw [] b363 b318 t356 kb356 ([x0, x1, x2, x3]) zc fm T370.heap n0 f379 q370_1 (⟨f375, f376, f377, f378, (Sq356).2.2.2.2⟩ : own_Str Z T370.heap b318 t356 kb356 [x0, x1, x2, x3]) (Nat.le_of_ble_eq_true rfl : [x0, x1, x2, x3].length ≤ 8) S_COMPACT_STRINGS hp1 S_SIOOBE_FORMATTER hp3) hZ370 (w_47 hw) (w_28 hw) (by decide) (by decide) hEL CH371.1 own_sf0) q380a q380c (g := (mkF mM 218 Ls374 [(.ref b363)])) rfl (by rw [hml]; rfl) (Steps.refl _) (argsL := []) (rest := []) (lenOf pd_19 rfl) rfl (by show 2 * 0 + _ ≤ _; exact Nat.le_of_eq rfl) (hb hby at_218) (fun _ _ => ⟨rfl, rfl, (by decide : 7 + 2 ≤ _), (by decide : 38 + 12 ≤ _)⟩)
    dsimp only [Pt.U, Pt.locs, Pt.cells, Pt.slots] at X380 l380 y380 z380 st380 hQ380 hS2380 hg2380 CHl380
    subst l380 y380 z380
    have hS380 := foldS hS370 (hk370) hS2380 hg2380
    have hZ380 : Z.Warmed39 (sS.setVm T380.vm).vm := State.Warmed39.trans (t := sS.setVm T370.vm) hZ370 hS2380.1
    have hown380 : (sS.setVm T380.vm).vm.findClass "com/example/ullr/ullr/files/ListedFileNamePinLaw" = some mM.cls := by rw [show (sS.setVm T380.vm).vm = T380.vm from rfl, hS2380.1.alike.findClass]; exact hown370
    have hk380 : T380.heap.size ≤ T380.heap.size := Nat.le_refl _
    replace X380 : Stand pP l eE room_1 (sS.setVm T380.vm) mM _ below meth cC T380 _ _ _ := X380
    obtain ⟨r_380, t2_380, k2_380, rfl, Nq380, Kq380, q380_0⟩ := hQ380
    have N380 := Fr.app N370 Nq380
    have CH381 : CHr Z own_EL sS.vm h0 T380.vm T380.heap := CH371.trans (CHl380)
    skip
    have K383 : Keep h0 T380.heap [] := K373.trans Kq380 all0
    let Ls384 : Array Slot := #[.val (.int p0), .val (.int p1), .val (.int p2), .val (.int p3), .val (.int p4), .val (.long p5), .second, .val (.int (4 : Int32)), .val (.int x0), .val (.int x1), .val (.int x2), .val (.int x3), .val (.ref b10), .val (.ref b318), .val (.ref b363), .val (.ref r_380), .unset]
    let Ls385 : Array Slot := #[.val (.int p0), .val (.int p1), .val (.int p2), .val (.int p3), .val (.int p4), .val (.long p5), .second, .val (.int (4 : Int32)), .val (.int x0), .val (.int x1), .val (.int x2), .val (.int x3), .val (.ref b10), .val (.ref b318), .val (.ref b363), .val (.ref r_380), .val (.int (-1 : Int32))]
    obtain ⟨T386, X386, e386, st386⟩ := own_to X380 (h := T380.heap) (g := (mkF mM 226 Ls385 [])) (g' := (mkF mM 241 #[.val (.int p0), .val (.int p1), .val (.int p2), .val (.int p3), .val (.int p4), .val (.long p5), .second, .val (.int (4 : Int32)), .val (.int x0), .val (.int x1), .val (.int x2), .val (.int x3), .val (.ref b10), .val (.ref b318), .val (.ref b363), .val (.ref r_380), .val (.int (own_lx ([x0, x1, x2, x3] : List Int32) (47 : Int32) (0 + 1)))] [])) (by
      have pre388 : ∀ tg, Steps pP.tables eE below (T380.setTop (mkF mM 235 Ls385 [(.int (47 : Int32)), (.int x0)])) tg → Steps pP.tables eE below (T380.setTop (mkF mM 226 Ls385 [])) tg := fun tg kg => (by
        refine XS.iload X380.here hx rfl (hb hby at_226) rfl ?_
        show Steps pP.tables eE below (T380.setTop (mkF mM 228 Ls385 [(.int (4 : Int32))])) _
        refine XS.ifNo X380.here hx rfl (hb hby at_228) rfl ((if0 _ _).trans (tlt (by decide : (0 : Int32) < (4 : Int32))).2.2.2) ?_
        show Steps pP.tables eE below (T380.setTop (mkF mM 231 Ls385 [])) _
        refine XS.iload X380.here hx rfl (hb hby at_231) rfl ?_
        show Steps pP.tables eE below (T380.setTop (mkF mM 233 Ls385 [(.int x0)])) _
        refine XS.bipush X380.here hx rfl (hb hby at_233) ?_
        exact kg)
      by_cases hc387 : x0 = (47 : Int32)
      · let Ls389 : Array Slot := #[.val (.int p0), .val (.int p1), .val (.int p2), .val (.int p3), .val (.int p4), .val (.long p5), .second, .val (.int (4 : Int32)), .val (.int x0), .val (.int x1), .val (.int x2), .val (.int x3), .val (.ref b10), .val (.ref b318), .val (.ref b363), .val (.ref r_380), .val (.int (0 : Int32))]
        refine ⟨T380, X380, rfl, fun tg kg => ?_⟩
        rw [(own_lxS ([x0, x1, x2, x3] : List Int32) (47 : Int32) 0).trans (if_pos hc387)] at kg
        refine pre388 tg ?_
        refine XS.icmpNo X380.here hx rfl (hb hby at_235) rfl (teq hc387).2 ?_
        show Steps pP.tables eE below (T380.setTop (mkF mM 238 Ls385 [])) _
        refine XS.iconst X380.here hx rfl (hb hby at_238) ?_
        show Steps pP.tables eE below (T380.setTop (mkF mM 239 Ls385 [(.int (0 : Int32))])) _
        refine XS.istore X380.here hx rfl (hb hby at_239) rfl (l' := Ls389) rfl ?_
        exact kg
      · refine ⟨T380, X380, rfl, fun tg kg => ?_⟩
        rw [(own_lxS ([x0, x1, x2, x3] : List Int32) (47 : Int32) 0).trans (if_neg hc387)] at kg
        refine pre388 tg ?_
        refine XS.icmpYes X380.here hx rfl (pc0 := 235) (pc' := 241) rfl (hb hby at_235) rfl (feq hc387).2 (by decide) (by decide) ?_
        exact kg)
    let Ls390 : Array Slot := #[.val (.int p0), .val (.int p1), .val (.int p2), .val (.int p3), .val (.int p4), .val (.long p5), .second, .val (.int (4 : Int32)), .val (.int x0), .val (.int x1), .val (.int x2), .val (.int x3), .val (.ref b10), .val (.ref b318), .val (.ref b363), .val (.ref r_380), .val (.int (own_lx ([x0, x1, x2, x3] : List Int32) (47 : Int32) (0 + 1)))]
    obtain ⟨T391, X391, e391, st391⟩ := own_to X386 (h := T380.heap) (g := (mkF mM 241 Ls390 [])) (g' := (mkF mM 257 #[.val (.int p0), .val (.int p1), .val (.int p2), .val (.int p3), .val (.int p4), .val (.long p5), .second, .val (.int (4 : Int32)), .val (.int x0), .val (.int x1), .val (.int x2), .val (.int x3), .val (.ref b10), .val (.ref b318), .val (.ref b363), .val (.ref r_380), .val (.int (own_lx ([x0, x1, x2, x3] : List Int32) (47 : Int32) (1 + 1)))] [])) (by
      have pre393 : ∀ tg, Steps pP.tables eE below (T386.setTop (mkF mM 251 Ls390 [(.int (47 : Int32)), (.int x1)])) tg → Steps pP.tables eE below (T386.setTop (mkF mM 241 Ls390 [])) tg := fun tg kg => (by
        refine XS.iload X386.here hx rfl (hb hby at_241) rfl ?_
        show Steps pP.tables eE below (T386.setTop (mkF mM 243 Ls390 [(.int (4 : Int32))])) _
        refine XS.iconst X386.here hx rfl (hb hby at_243) ?_
        show Steps pP.tables eE below (T386.setTop (mkF mM 244 Ls390 [(.int (1 : Int32)), (.int (4 : Int32))])) _
        refine XS.icmpNo X386.here hx rfl (hb hby at_244) rfl (tlt (by decide : (1 : Int32) < (4 : Int32))).2.2.2 ?_
        show Steps pP.tables eE below (T386.setTop (mkF mM 247 Ls390 [])) _
        refine XS.iload X386.here hx rfl (hb hby at_247) rfl ?_
        show Steps pP.tables eE below (T386.setTop (mkF mM 249 Ls390 [(.int x1)])) _
        refine XS.bipush X386.here hx rfl (hb hby at_249) ?_
        exact kg)
      by_cases hc392 : x1 = (47 : Int32)
      · let Ls394 : Array Slot := #[.val (.int p0), .val (.int p1), .val (.int p2), .val (.int p3), .val (.int p4), .val (.long p5), .second, .val (.int (4 : Int32)), .val (.int x0), .val (.int x1), .val (.int x2), .val (.int x3), .val (.ref b10), .val (.ref b318), .val (.ref b363), .val (.ref r_380), .val (.int (1 : Int32))]
        refine ⟨T386, X386, e386, fun tg kg => ?_⟩
        rw [(own_lxS ([x0, x1, x2, x3] : List Int32) (47 : Int32) 1).trans (if_pos hc392)] at kg
        refine pre393 tg ?_
        refine XS.icmpNo X386.here hx rfl (hb hby at_251) rfl (teq hc392).2 ?_
        show Steps pP.tables eE below (T386.setTop (mkF mM 254 Ls390 [])) _
        refine XS.iconst X386.here hx rfl (hb hby at_254) ?_
        show Steps pP.tables eE below (T386.setTop (mkF mM 255 Ls390 [(.int (1 : Int32))])) _
        refine XS.istore X386.here hx rfl (hb hby at_255) rfl (l' := Ls394) rfl ?_
        exact kg
      · refine ⟨T386, X386, e386, fun tg kg => ?_⟩
        rw [(own_lxS ([x0, x1, x2, x3] : List Int32) (47 : Int32) 1).trans (if_neg hc392)] at kg
        refine pre393 tg ?_
        refine XS.icmpYes X386.here hx rfl (pc0 := 251) (pc' := 257) rfl (hb hby at_251) rfl (feq hc392).2 (by decide) (by decide) ?_
        exact kg)
    let Ls395 : Array Slot := #[.val (.int p0), .val (.int p1), .val (.int p2), .val (.int p3), .val (.int p4), .val (.long p5), .second, .val (.int (4 : Int32)), .val (.int x0), .val (.int x1), .val (.int x2), .val (.int x3), .val (.ref b10), .val (.ref b318), .val (.ref b363), .val (.ref r_380), .val (.int (own_lx ([x0, x1, x2, x3] : List Int32) (47 : Int32) (1 + 1)))]
    obtain ⟨T396, X396, e396, st396⟩ := own_to X391 (h := T380.heap) (g := (mkF mM 257 Ls395 [])) (g' := (mkF mM 273 #[.val (.int p0), .val (.int p1), .val (.int p2), .val (.int p3), .val (.int p4), .val (.long p5), .second, .val (.int (4 : Int32)), .val (.int x0), .val (.int x1), .val (.int x2), .val (.int x3), .val (.ref b10), .val (.ref b318), .val (.ref b363), .val (.ref r_380), .val (.int (own_lx ([x0, x1, x2, x3] : List Int32) (47 : Int32) (2 + 1)))] [])) (by
      have pre398 : ∀ tg, Steps pP.tables eE below (T391.setTop (mkF mM 267 Ls395 [(.int (47 : Int32)), (.int x2)])) tg → Steps pP.tables eE below (T391.setTop (mkF mM 257 Ls395 [])) tg := fun tg kg => (by
        refine XS.iload X391.here hx rfl (hb hby at_257) rfl ?_
        show Steps pP.tables eE below (T391.setTop (mkF mM 259 Ls395 [(.int (4 : Int32))])) _
        refine XS.iconst X391.here hx rfl (hb hby at_259) ?_
        show Steps pP.tables eE below (T391.setTop (mkF mM 260 Ls395 [(.int (2 : Int32)), (.int (4 : Int32))])) _
        refine XS.icmpNo X391.here hx rfl (hb hby at_260) rfl (tlt (by decide : (2 : Int32) < (4 : Int32))).2.2.2 ?_
        show Steps pP.tables eE below (T391.setTop (mkF mM 263 Ls395 [])) _
        refine XS.iload X391.here hx rfl (hb hby at_263) rfl ?_
        show Steps pP.tables eE below (T391.setTop (mkF mM 265 Ls395 [(.int x2)])) _
        refine XS.bipush X391.here hx rfl (hb hby at_265) ?_
        exact kg)
      by_cases hc397 : x2 = (47 : Int32)
      · let Ls399 : Array Slot := #[.val (.int p0), .val (.int p1), .val (.int p2), .val (.int p3), .val (.int p4), .val (.long p5), .second, .val (.int (4 : Int32)), .val (.int x0), .val (.int x1), .val (.int x2), .val (.int x3), .val (.ref b10), .val (.ref b318), .val (.ref b363), .val (.ref r_380), .val (.int (2 : Int32))]
        refine ⟨T391, X391, e391, fun tg kg => ?_⟩
        rw [(own_lxS ([x0, x1, x2, x3] : List Int32) (47 : Int32) 2).trans (if_pos hc397)] at kg
        refine pre398 tg ?_
        refine XS.icmpNo X391.here hx rfl (hb hby at_267) rfl (teq hc397).2 ?_
        show Steps pP.tables eE below (T391.setTop (mkF mM 270 Ls395 [])) _
        refine XS.iconst X391.here hx rfl (hb hby at_270) ?_
        show Steps pP.tables eE below (T391.setTop (mkF mM 271 Ls395 [(.int (2 : Int32))])) _
        refine XS.istore X391.here hx rfl (hb hby at_271) rfl (l' := Ls399) rfl ?_
        exact kg
      · refine ⟨T391, X391, e391, fun tg kg => ?_⟩
        rw [(own_lxS ([x0, x1, x2, x3] : List Int32) (47 : Int32) 2).trans (if_neg hc397)] at kg
        refine pre398 tg ?_
        refine XS.icmpYes X391.here hx rfl (pc0 := 267) (pc' := 273) rfl (hb hby at_267) rfl (feq hc397).2 (by decide) (by decide) ?_
        exact kg)
    let Ls400 : Array Slot := #[.val (.int p0), .val (.int p1), .val (.int p2), .val (.int p3), .val (.int p4), .val (.long p5), .second, .val (.int (4 : Int32)), .val (.int x0), .val (.int x1), .val (.int x2), .val (.int x3), .val (.ref b10), .val (.ref b318), .val (.ref b363), .val (.ref r_380), .val (.int (own_lx ([x0, x1, x2, x3] : List Int32) (47 : Int32) (2 + 1)))]
    obtain ⟨T401, X401, e401, st401⟩ := own_to X396 (h := T380.heap) (g := (mkF mM 273 Ls400 [])) (g' := (mkF mM 289 #[.val (.int p0), .val (.int p1), .val (.int p2), .val (.int p3), .val (.int p4), .val (.long p5), .second, .val (.int (4 : Int32)), .val (.int x0), .val (.int x1), .val (.int x2), .val (.int x3), .val (.ref b10), .val (.ref b318), .val (.ref b363), .val (.ref r_380), .val (.int (own_lx ([x0, x1, x2, x3] : List Int32) (47 : Int32) (3 + 1)))] [])) (by
      have pre403 : ∀ tg, Steps pP.tables eE below (T396.setTop (mkF mM 283 Ls400 [(.int (47 : Int32)), (.int x3)])) tg → Steps pP.tables eE below (T396.setTop (mkF mM 273 Ls400 [])) tg := fun tg kg => (by
        refine XS.iload X396.here hx rfl (hb hby at_273) rfl ?_
        show Steps pP.tables eE below (T396.setTop (mkF mM 275 Ls400 [(.int (4 : Int32))])) _
        refine XS.iconst X396.here hx rfl (hb hby at_275) ?_
        show Steps pP.tables eE below (T396.setTop (mkF mM 276 Ls400 [(.int (3 : Int32)), (.int (4 : Int32))])) _
        refine XS.icmpNo X396.here hx rfl (hb hby at_276) rfl (tlt (by decide : (3 : Int32) < (4 : Int32))).2.2.2 ?_
        show Steps pP.tables eE below (T396.setTop (mkF mM 279 Ls400 [])) _
        refine XS.iload X396.here hx rfl (hb hby at_279) rfl ?_
        show Steps pP.tables eE below (T396.setTop (mkF mM 281 Ls400 [(.int x3)])) _
        refine XS.bipush X396.here hx rfl (hb hby at_281) ?_
        exact kg)
      by_cases hc402 : x3 = (47 : Int32)
      · let Ls404 : Array Slot := #[.val (.int p0), .val (.int p1), .val (.int p2), .val (.int p3), .val (.int p4), .val (.long p5), .second, .val (.int (4 : Int32)), .val (.int x0), .val (.int x1), .val (.int x2), .val (.int x3), .val (.ref b10), .val (.ref b318), .val (.ref b363), .val (.ref r_380), .val (.int (3 : Int32))]
        refine ⟨T396, X396, e396, fun tg kg => ?_⟩
        rw [(own_lxS ([x0, x1, x2, x3] : List Int32) (47 : Int32) 3).trans (if_pos hc402)] at kg
        refine pre403 tg ?_
        refine XS.icmpNo X396.here hx rfl (hb hby at_283) rfl (teq hc402).2 ?_
        show Steps pP.tables eE below (T396.setTop (mkF mM 286 Ls400 [])) _
        refine XS.iconst X396.here hx rfl (hb hby at_286) ?_
        show Steps pP.tables eE below (T396.setTop (mkF mM 287 Ls400 [(.int (3 : Int32))])) _
        refine XS.istore X396.here hx rfl (hb hby at_287) rfl (l' := Ls404) rfl ?_
        exact kg
      · refine ⟨T396, X396, e396, fun tg kg => ?_⟩
        rw [(own_lxS ([x0, x1, x2, x3] : List Int32) (47 : Int32) 3).trans (if_neg hc402)] at kg
        refine pre403 tg ?_
        refine XS.icmpYes X396.here hx rfl (pc0 := 283) (pc' := 289) rfl (hb hby at_283) rfl (feq hc402).2 (by decide) (by decide) ?_
        exact kg)
    let Ls405 : Array Slot := #[.val (.int p0), .val (.int p1), .val (.int p2), .val (.int p3), .val (.int p4), .val (.long p5), .second, .val (.int (4 : Int32)), .val (.int x0), .val (.int x1), .val (.int x2), .val (.int x3), .val (.ref b10), .val (.ref b318), .val (.ref b363), .val (.ref r_380), .val (.int (own_lx ([x0, x1, x2, x3] : List Int32) (47 : Int32) (3 + 1)))]
    have f406 := (f379.keep Kq380 all0)
    obtain ⟨cq407, kq407, q407a, q407b, q407c⟩ := isOf hZ380 e401 (q380_0).1
    obtain ⟨_, _, ⟨T407, L407, k407, n407⟩, -, X407, ⟨Lc407, hQ407, l407, y407, z407⟩, st407⟩ := X401.virtualBack hx (y := (⟨"java/lang/String", "length", "()I"⟩ : MethodName)) (z := (⟨"java/lang/String", "length", "()I"⟩ : MethodName)) hown380 (mvT hZ380 (w_103 hw)) (mvT hZ380 (w_54 hw)) (notFace_of_selects (args := #[]) (mvT hZ380 (w_56 hw))) (mvT hZ380 (w_56 hw)) (mvT hZ380 (w_55 hw)) (by decide) (own_len (W := 0) hZ380 hw (⟨(q380_0).1, (q380_0).2.1, (q380_0).2.2.1, (q380_0).2.2.2.1, (q380_0).2.2.2.2⟩ : own_Str Z T380.heap r_380 t2_380 k2_380 ([x0, x1, x2, x3].drop (own_ln [x0, x1, x2, x3] (47 : Int32) [x0, x1, x2, x3].length))) (Sta.ext (f406).2 S_COMPACT_STRINGS) hp1 (by decide) (by decide)) q407a q407c (g := (mkF mM 298 Ls405 [(.ref r_380)])) rfl (by rw [hml]; rfl) (Steps.refl _) (argsL := []) (rest := []) (lenOf pd_5 rfl) rfl (by show 2 * 0 + _ ≤ _; exact Nat.le_of_eq rfl) (hb hby at_298) (fun _ _ => ⟨rfl, e401, (by decide : 9 + 0 ≤ _), (by decide : 50 + 0 ≤ _)⟩)
    dsimp only [Pt.U, Pt.locs, Pt.cells, Pt.slots] at X407 l407 y407 z407 st407 hQ407
    subst l407 y407 z407
    obtain ⟨rfl, rfl, Kq407⟩ := hQ407
    try rw [List.append_nil] at X407
    have f408 := ((((((((((V32.ext E318).ext E323).other W328 (Nat.ne_of_lt (Nat.lt_of_lt_of_le (Nat.lt_of_lt_of_le (Nat.lt_of_lt_of_le (Nat.lt_of_lt_of_le (Nat.lt_of_lt_of_le (Nat.lt_of_lt_of_le (V10).lt (Nat.le_of_eq W14.size.symm)) (Nat.le_of_eq W20.size.symm)) (Nat.le_of_eq W26.size.symm)) (Nat.le_of_eq W32.size.symm)) E318.1) (Nat.le_of_eq g323.symm)))).other W334 (Nat.ne_of_lt (Nat.lt_of_lt_of_le (Nat.lt_of_lt_of_le (Nat.lt_of_lt_of_le (Nat.lt_of_lt_of_le (Nat.lt_of_lt_of_le (Nat.lt_of_lt_of_le (V10).lt (Nat.le_of_eq W14.size.symm)) (Nat.le_of_eq W20.size.symm)) (Nat.le_of_eq W26.size.symm)) (Nat.le_of_eq W32.size.symm)) E318.1) (Nat.le_of_eq g323.symm)))).other W340 (Nat.ne_of_lt (Nat.lt_of_lt_of_le (Nat.lt_of_lt_of_le (Nat.lt_of_lt_of_le (Nat.lt_of_lt_of_le (Nat.lt_of_lt_of_le (Nat.lt_of_lt_of_le (V10).lt (Nat.le_of_eq W14.size.symm)) (Nat.le_of_eq W20.size.symm)) (Nat.le_of_eq W26.size.symm)) (Nat.le_of_eq W32.size.symm)) E318.1) (Nat.le_of_eq g323.symm)))).other W346 (Nat.ne_of_lt (Nat.lt_of_lt_of_le (Nat.lt_of_lt_of_le (Nat.lt_of_lt_of_le (Nat.lt_of_lt_of_le (Nat.lt_of_lt_of_le (Nat.lt_of_lt_of_le (V10).lt (Nat.le_of_eq W14.size.symm)) (Nat.le_of_eq W20.size.symm)) (Nat.le_of_eq W26.size.symm)) (Nat.le_of_eq W32.size.symm)) E318.1) (Nat.le_of_eq g323.symm)))).keep Kq356 (ninS (Nat.ne_of_lt (Nat.lt_of_lt_of_le (Nat.lt_of_lt_of_le (Nat.lt_of_lt_of_le (Nat.lt_of_lt_of_le (Nat.lt_of_lt_of_le (V10).lt (Nat.le_of_eq W14.size.symm)) (Nat.le_of_eq W20.size.symm)) (Nat.le_of_eq W26.size.symm)) (Nat.le_of_eq W32.size.symm)) (Nat.le_of_eq g318.symm))) nin0)).ext E363).keep Kq370 (ninS (Nat.ne_of_lt (Nat.lt_of_lt_of_le (Nat.lt_of_lt_of_le (Nat.lt_of_lt_of_le (Nat.lt_of_lt_of_le (Nat.lt_of_lt_of_le (Nat.lt_of_lt_of_le (Nat.lt_of_lt_of_le (Nat.lt_of_lt_of_le (Nat.lt_of_lt_of_le (Nat.lt_of_lt_of_le (Nat.lt_of_lt_of_le (Nat.lt_of_lt_of_le (V10).lt (Nat.le_of_eq W14.size.symm)) (Nat.le_of_eq W20.size.symm)) (Nat.le_of_eq W26.size.symm)) (Nat.le_of_eq W32.size.symm)) E318.1) E323.1) (Nat.le_of_eq W328.size.symm)) (Nat.le_of_eq W334.size.symm)) (Nat.le_of_eq W340.size.symm)) (Nat.le_of_eq W346.size.symm)) Kq356.1) (Nat.le_of_eq g363.symm))) nin0)).keep Kq380 nin0)
    obtain ⟨_, _, ⟨T409, L409, k409, n409⟩, -, X409, ⟨Lc409, hQ409, l409, y409, z409⟩, st409⟩ := Jvm.LawKit.callS X407 hx (y := (⟨"com/example/ullr/ullr/files/ListedFileNamePinLaw", "at", "(Ljava/lang/String;[CIII)Z"⟩ : MethodName)) hown380 (mvT hZ380 (w_104 hw)) (mvT hZ380 (w_105 hw)) (mvT hZ380 (w_2 hw)) (mvT hZ380 (w_106 hw)) (by decide) (backOf (W := 0) (rm_att l Z a0 hw [] r_380 t2_380 k2_380 ([x0, x1, x2, x3]) (own_ln ([x0, x1, x2, x3] : List Int32) (47 : Int32) ([x0, x1, x2, x3] : List Int32).length) b10 k10 ([x0, x1, x2, x3]) (own_lx ([x0, x1, x2, x3] : List Int32) (47 : Int32) (3 + 1)) 0 zc fm T380.heap n0 f406 (⟨(q380_0).1, (q380_0).2.1, (q380_0).2.2.1, (q380_0).2.2.2.1, (q380_0).2.2.2.2⟩ : own_Str Z T380.heap r_380 t2_380 k2_380 ([x0, x1, x2, x3].drop (own_ln [x0, x1, x2, x3] (47 : Int32) [x0, x1, x2, x3].length))) f408 (own_lxp ([x0, x1, x2, x3] : List Int32) (47 : Int32) 4 : (own_lx ([x0, x1, x2, x3] : List Int32) (47 : Int32) (3 + 1)) = own_pr (own_ln ([x0, x1, x2, x3] : List Int32) (47 : Int32) ([x0, x1, x2, x3] : List Int32).length)) (⟨own_ln_le _ _ _, Nat.le_of_ble_eq_true rfl, rfl⟩ : (own_ln ([x0, x1, x2, x3] : List Int32) (47 : Int32) ([x0, x1, x2, x3] : List Int32).length) ≤ [x0, x1, x2, x3].length ∧ [x0, x1, x2, x3].length ≤ 8 ∧ [x0, x1, x2, x3].length = 4) (by decide : 0 < 4) (fun _ => rfl : 0 < [x0, x1, x2, x3].length → [x0, x1, x2, x3].getD 0 0 = [x0, x1, x2, x3].getD 0 0) S_COMPACT_STRINGS hp1 S_SIOOBE_FORMATTER hp3) hZ380 (w_106 hw) (w_2 hw) (by decide) (by decide)) (g := (mkF mM 322 Ls405 [(.int (0 : Int32)), (.int (4 : Int32)), (.int (own_lx ([x0, x1, x2, x3] : List Int32) (47 : Int32) (3 + 1))), (.ref b10), (.ref r_380)])) rfl (by rw [hml]; rfl) (argsL := [(.ref r_380), (.ref b10), (.int (own_lx ([x0, x1, x2, x3] : List Int32) (47 : Int32) (3 + 1))), (.int (4 : Int32)), (.int (0 : Int32))]) (rest := []) (lenOf pd_20 rfl) rfl (by show 2 * 0 + _ ≤ _; exact Nat.le_of_eq rfl) (hb hby at_322) (fun _ _ => ⟨rfl, Kq407, (by decide : 9 + 0 ≤ _), (by decide : 50 + 0 ≤ _)⟩)
    dsimp only [Pt.U, Pt.locs, Pt.cells, Pt.slots] at X409 l409 y409 z409 st409 hQ409
    subst l409 y409 z409
    obtain ⟨rfl, rfl, Kq409⟩ := hQ409
    try rw [List.append_nil] at X409
    obtain ⟨_, _, ⟨T410, L410, k410, n410⟩, -, X410, ⟨Lc410, hQ410, l410, y410, z410⟩, st410⟩ := Jvm.LawKit.callS X409 hx (y := (⟨"com/example/ullr/ullr/files/ListedFileNamePinLaw", "at", "(Ljava/lang/String;[CIII)Z"⟩ : MethodName)) hown380 (mvT hZ380 (w_104 hw)) (mvT hZ380 (w_105 hw)) (mvT hZ380 (w_2 hw)) (mvT hZ380 (w_106 hw)) (by decide) (backOf (W := 0) (rm_att l Z a0 hw [] r_380 t2_380 k2_380 ([x0, x1, x2, x3]) (own_ln ([x0, x1, x2, x3] : List Int32) (47 : Int32) ([x0, x1, x2, x3] : List Int32).length) b10 k10 ([x0, x1, x2, x3]) (own_lx ([x0, x1, x2, x3] : List Int32) (47 : Int32) (3 + 1)) 1 zc fm T380.heap n0 f406 (⟨(q380_0).1, (q380_0).2.1, (q380_0).2.2.1, (q380_0).2.2.2.1, (q380_0).2.2.2.2⟩ : own_Str Z T380.heap r_380 t2_380 k2_380 ([x0, x1, x2, x3].drop (own_ln [x0, x1, x2, x3] (47 : Int32) [x0, x1, x2, x3].length))) f408 (own_lxp ([x0, x1, x2, x3] : List Int32) (47 : Int32) 4 : (own_lx ([x0, x1, x2, x3] : List Int32) (47 : Int32) (3 + 1)) = own_pr (own_ln ([x0, x1, x2, x3] : List Int32) (47 : Int32) ([x0, x1, x2, x3] : List Int32).length)) (⟨own_ln_le _ _ _, Nat.le_of_ble_eq_true rfl, rfl⟩ : (own_ln ([x0, x1, x2, x3] : List Int32) (47 : Int32) ([x0, x1, x2, x3] : List Int32).length) ≤ [x0, x1, x2, x3].length ∧ [x0, x1, x2, x3].length ≤ 8 ∧ [x0, x1, x2, x3].length = 4) (by decide : 1 < 4) (fun _ => rfl : 1 < [x0, x1, x2, x3].length → [x0, x1, x2, x3].getD 1 0 = [x0, x1, x2, x3].getD 1 0) S_COMPACT_STRINGS hp1 S_SIOOBE_FORMATTER hp3) hZ380 (w_106 hw) (w_2 hw) (by decide) (by decide)) (g := (mkF mM 337 Ls405 [(.int (1 : Int32)), (.int (4 : Int32)), (.int (own_lx ([x0, x1, x2, x3] : List Int32) (47 : Int32) (3 + 1))), (.ref b10), (.ref r_380)])) rfl (by rw [hml]; rfl) (argsL := [(.ref r_380), (.ref b10), (.int (own_lx ([x0, x1, x2, x3] : List Int32) (47 : Int32) (3 + 1))), (.int (4 : Int32)), (.int (1 : Int32))]) (rest := []) (lenOf pd_20 rfl) rfl (by show 2 * 0 + _ ≤ _; exact Nat.le_of_eq rfl) (hb hby at_337) (fun _ _ => ⟨rfl, Kq409, (by decide : 9 + 0 ≤ _), (by decide : 50 + 0 ≤ _)⟩)
    dsimp only [Pt.U, Pt.locs, Pt.cells, Pt.slots] at X410 l410 y410 z410 st410 hQ410
    subst l410 y410 z410
    obtain ⟨rfl, rfl, Kq410⟩ := hQ410
    try rw [List.append_nil] at X410
    obtain ⟨_, _, ⟨T411, L411, k411, n411⟩, -, X411, ⟨Lc411, hQ411, l411, y411, z411⟩, st411⟩ := Jvm.LawKit.callS X410 hx (y := (⟨"com/example/ullr/ullr/files/ListedFileNamePinLaw", "at", "(Ljava/lang/String;[CIII)Z"⟩ : MethodName)) hown380 (mvT hZ380 (w_104 hw)) (mvT hZ380 (w_105 hw)) (mvT hZ380 (w_2 hw)) (mvT hZ380 (w_106 hw)) (by decide) (backOf (W := 0) (rm_att l Z a0 hw [] r_380 t2_380 k2_380 ([x0, x1, x2, x3]) (own_ln ([x0, x1, x2, x3] : List Int32) (47 : Int32) ([x0, x1, x2, x3] : List Int32).length) b10 k10 ([x0, x1, x2, x3]) (own_lx ([x0, x1, x2, x3] : List Int32) (47 : Int32) (3 + 1)) 2 zc fm T380.heap n0 f406 (⟨(q380_0).1, (q380_0).2.1, (q380_0).2.2.1, (q380_0).2.2.2.1, (q380_0).2.2.2.2⟩ : own_Str Z T380.heap r_380 t2_380 k2_380 ([x0, x1, x2, x3].drop (own_ln [x0, x1, x2, x3] (47 : Int32) [x0, x1, x2, x3].length))) f408 (own_lxp ([x0, x1, x2, x3] : List Int32) (47 : Int32) 4 : (own_lx ([x0, x1, x2, x3] : List Int32) (47 : Int32) (3 + 1)) = own_pr (own_ln ([x0, x1, x2, x3] : List Int32) (47 : Int32) ([x0, x1, x2, x3] : List Int32).length)) (⟨own_ln_le _ _ _, Nat.le_of_ble_eq_true rfl, rfl⟩ : (own_ln ([x0, x1, x2, x3] : List Int32) (47 : Int32) ([x0, x1, x2, x3] : List Int32).length) ≤ [x0, x1, x2, x3].length ∧ [x0, x1, x2, x3].length ≤ 8 ∧ [x0, x1, x2, x3].length = 4) (by decide : 2 < 4) (fun _ => rfl : 2 < [x0, x1, x2, x3].length → [x0, x1, x2, x3].getD 2 0 = [x0, x1, x2, x3].getD 2 0) S_COMPACT_STRINGS hp1 S_SIOOBE_FORMATTER hp3) hZ380 (w_106 hw) (w_2 hw) (by decide) (by decide)) (g := (mkF mM 352 Ls405 [(.int (2 : Int32)), (.int (4 : Int32)), (.int (own_lx ([x0, x1, x2, x3] : List Int32) (47 : Int32) (3 + 1))), (.ref b10), (.ref r_380)])) rfl (by rw [hml]; rfl) (argsL := [(.ref r_380), (.ref b10), (.int (own_lx ([x0, x1, x2, x3] : List Int32) (47 : Int32) (3 + 1))), (.int (4 : Int32)), (.int (2 : Int32))]) (rest := []) (lenOf pd_20 rfl) rfl (by show 2 * 0 + _ ≤ _; exact Nat.le_of_eq rfl) (hb hby at_352) (fun _ _ => ⟨rfl, Kq410, (by decide : 9 + 0 ≤ _), (by decide : 50 + 0 ≤ _)⟩)
    dsimp only [Pt.U, Pt.locs, Pt.cells, Pt.slots] at X411 l411 y411 z411 st411 hQ411
    subst l411 y411 z411
    obtain ⟨rfl, rfl, Kq411⟩ := hQ411
    try rw [List.append_nil] at X411
    obtain ⟨_, _, ⟨T412, L412, k412, n412⟩, -, X412, ⟨Lc412, hQ412, l412, y412, z412⟩, st412⟩ := Jvm.LawKit.callS X411 hx (y := (⟨"com/example/ullr/ullr/files/ListedFileNamePinLaw", "at", "(Ljava/lang/String;[CIII)Z"⟩ : MethodName)) hown380 (mvT hZ380 (w_104 hw)) (mvT hZ380 (w_105 hw)) (mvT hZ380 (w_2 hw)) (mvT hZ380 (w_106 hw)) (by decide) (backOf (W := 0) (rm_att l Z a0 hw [] r_380 t2_380 k2_380 ([x0, x1, x2, x3]) (own_ln ([x0, x1, x2, x3] : List Int32) (47 : Int32) ([x0, x1, x2, x3] : List Int32).length) b10 k10 ([x0, x1, x2, x3]) (own_lx ([x0, x1, x2, x3] : List Int32) (47 : Int32) (3 + 1)) 3 zc fm T380.heap n0 f406 (⟨(q380_0).1, (q380_0).2.1, (q380_0).2.2.1, (q380_0).2.2.2.1, (q380_0).2.2.2.2⟩ : own_Str Z T380.heap r_380 t2_380 k2_380 ([x0, x1, x2, x3].drop (own_ln [x0, x1, x2, x3] (47 : Int32) [x0, x1, x2, x3].length))) f408 (own_lxp ([x0, x1, x2, x3] : List Int32) (47 : Int32) 4 : (own_lx ([x0, x1, x2, x3] : List Int32) (47 : Int32) (3 + 1)) = own_pr (own_ln ([x0, x1, x2, x3] : List Int32) (47 : Int32) ([x0, x1, x2, x3] : List Int32).length)) (⟨own_ln_le _ _ _, Nat.le_of_ble_eq_true rfl, rfl⟩ : (own_ln ([x0, x1, x2, x3] : List Int32) (47 : Int32) ([x0, x1, x2, x3] : List Int32).length) ≤ [x0, x1, x2, x3].length ∧ [x0, x1, x2, x3].length ≤ 8 ∧ [x0, x1, x2, x3].length = 4) (by decide : 3 < 4) (fun _ => rfl : 3 < [x0, x1, x2, x3].length → [x0, x1, x2, x3].getD 3 0 = [x0, x1, x2, x3].getD 3 0) S_COMPACT_STRINGS hp1 S_SIOOBE_FORMATTER hp3) hZ380 (w_106 hw) (w_2 hw) (by decide) (by decide)) (g := (mkF mM 367 Ls405 [(.int (3 : Int32)), (.int (4 : Int32)), (.int (own_lx ([x0, x1, x2, x3] : List Int32) (47 : Int32) (3 + 1))), (.ref b10), (.ref r_380)])) rfl (by rw [hml]; rfl) (argsL := [(.ref r_380), (.ref b10), (.int (own_lx ([x0, x1, x2, x3] : List Int32) (47 : Int32) (3 + 1))), (.int (4 : Int32)), (.int (3 : Int32))]) (rest := []) (lenOf pd_20 rfl) rfl (by show 2 * 0 + _ ≤ _; exact Nat.le_of_eq rfl) (hb hby at_367) (fun _ _ => ⟨rfl, Kq411, (by decide : 9 + 0 ≤ _), (by decide : 50 + 0 ≤ _)⟩)
    dsimp only [Pt.U, Pt.locs, Pt.cells, Pt.slots] at X412 l412 y412 z412 st412 hQ412
    subst l412 y412 z412
    obtain ⟨rfl, rfl, Kq412⟩ := hQ412
    try rw [List.append_nil] at X412
    obtain ⟨fs, hr, hrun, hended, hR1, hR2, hR3, hR4⟩ := Stand.leaveW (s := sS) (vm₁ := T380.vm) X412 hS380 (by rw [Kq412]; exact hk380) (v := some (.int (1 : Int32))) (fun h => by rw [Bd.returns] at h; cases h)
    refine ⟨_, _, pre39 _ ?_, hrun, hended, _, _, rfl, ?_, ?_, hR1, hR2, hR3, hR4.mono (by decide) (by decide)⟩
    · refine XS.iload X32.here hx rfl (hb hby at_58) rfl ?_
      show Steps pP.tables eE below (T32.setTop (mkF mM 60 Ls317 [(.int (4 : Int32))])) _
      refine XS.ifYes X32.here hx rfl (pc0 := 60) (pc' := 78) rfl (hb hby at_60) rfl ((if0 _ _).trans (feq (by decide : ¬ ((4 : Int32) = (0 : Int32)))).2) (by decide) (by decide) ?_
      show Steps pP.tables eE below (T32.setTop (mkF mM 78 Ls317 [])) _
      refine XS.iload X32.here hx rfl (hb hby at_78) rfl ?_
      show Steps pP.tables eE below (T32.setTop (mkF mM 80 Ls317 [(.int (4 : Int32))])) _
      refine XS.iconst X32.here hx rfl (hb hby at_80) ?_
      show Steps pP.tables eE below (T32.setTop (mkF mM 81 Ls317 [(.int (1 : Int32)), (.int (4 : Int32))])) _
      refine XS.icmpYes X32.here hx rfl (pc0 := 81) (pc' := 104) rfl (hb hby at_81) rfl (feq (by decide : ¬ ((4 : Int32) = (1 : Int32)))).2 (by decide) (by decide) ?_
      show Steps pP.tables eE below (T32.setTop (mkF mM 104 Ls317 [])) _
      refine XS.iload X32.here hx rfl (hb hby at_104) rfl ?_
      show Steps pP.tables eE below (T32.setTop (mkF mM 106 Ls317 [(.int (4 : Int32))])) _
      refine XS.iconst X32.here hx rfl (hb hby at_106) ?_
      show Steps pP.tables eE below (T32.setTop (mkF mM 107 Ls317 [(.int (2 : Int32)), (.int (4 : Int32))])) _
      refine XS.icmpYes X32.here hx rfl (pc0 := 107) (pc' := 135) rfl (hb hby at_107) rfl (feq (by decide : ¬ ((4 : Int32) = (2 : Int32)))).2 (by decide) (by decide) ?_
      show Steps pP.tables eE below (T32.setTop (mkF mM 135 Ls317 [])) _
      refine XS.iload X32.here hx rfl (hb hby at_135) rfl ?_
      show Steps pP.tables eE below (T32.setTop (mkF mM 137 Ls317 [(.int (4 : Int32))])) _
      refine XS.iconst X32.here hx rfl (hb hby at_137) ?_
      show Steps pP.tables eE below (T32.setTop (mkF mM 138 Ls317 [(.int (3 : Int32)), (.int (4 : Int32))])) _
      refine XS.icmpYes X32.here hx rfl (pc0 := 138) (pc' := 171) rfl (hb hby at_138) rfl (feq (by decide : ¬ ((4 : Int32) = (3 : Int32)))).2 (by decide) (by decide) ?_
      show Steps pP.tables eE below (T32.setTop (mkF mM 171 Ls317 [])) _
      refine st318 _ ?_
      show Steps pP.tables eE below (T318.setTop (mkF mM 174 Ls317 [(.ref b318)])) _
      refine XS.dup X318.here hx rfl (hb hby at_174) rfl rfl ?_
      show Steps pP.tables eE below (T318.setTop (mkF mM 175 Ls317 [(.ref b318), (.ref b318)])) _
      refine XS.iconst X318.here hx rfl (hb hby at_175) ?_
      show Steps pP.tables eE below (T318.setTop (mkF mM 176 Ls317 [(.int (4 : Int32)), (.ref b318), (.ref b318)])) _
      refine st323 _ ?_
      show Steps pP.tables eE below (T323.setTop (mkF mM 178 Ls317 [(.ref b323), (.ref b318), (.ref b318)])) _
      refine XS.dup X323.here hx rfl (hb hby at_178) rfl rfl ?_
      show Steps pP.tables eE below (T323.setTop (mkF mM 179 Ls317 [(.ref b323), (.ref b323), (.ref b318), (.ref b318)])) _
      refine XS.iconst X323.here hx rfl (hb hby at_179) ?_
      show Steps pP.tables eE below (T323.setTop (mkF mM 180 Ls317 [(.int (0 : Int32)), (.ref b323), (.ref b323), (.ref b318), (.ref b318)])) _
      refine XS.iload X323.here hx rfl (hb hby at_180) rfl ?_
      show Steps pP.tables eE below (T323.setTop (mkF mM 182 Ls317 [(.int x0), (.int (0 : Int32)), (.ref b323), (.ref b323), (.ref b318), (.ref b318)])) _
      refine st328 _ ?_
      show Steps pP.tables eE below (T328.setTop (mkF mM 183 Ls317 [(.ref b323), (.ref b318), (.ref b318)])) _
      refine XS.dup X328.here hx rfl (hb hby at_183) rfl rfl ?_
      show Steps pP.tables eE below (T328.setTop (mkF mM 184 Ls317 [(.ref b323), (.ref b323), (.ref b318), (.ref b318)])) _
      refine XS.iconst X328.here hx rfl (hb hby at_184) ?_
      show Steps pP.tables eE below (T328.setTop (mkF mM 185 Ls317 [(.int (1 : Int32)), (.ref b323), (.ref b323), (.ref b318), (.ref b318)])) _
      refine XS.iload X328.here hx rfl (hb hby at_185) rfl ?_
      show Steps pP.tables eE below (T328.setTop (mkF mM 187 Ls317 [(.int x1), (.int (1 : Int32)), (.ref b323), (.ref b323), (.ref b318), (.ref b318)])) _
      refine st334 _ ?_
      show Steps pP.tables eE below (T334.setTop (mkF mM 188 Ls317 [(.ref b323), (.ref b318), (.ref b318)])) _
      refine XS.dup X334.here hx rfl (hb hby at_188) rfl rfl ?_
      show Steps pP.tables eE below (T334.setTop (mkF mM 189 Ls317 [(.ref b323), (.ref b323), (.ref b318), (.ref b318)])) _
      refine XS.iconst X334.here hx rfl (hb hby at_189) ?_
      show Steps pP.tables eE below (T334.setTop (mkF mM 190 Ls317 [(.int (2 : Int32)), (.ref b323), (.ref b323), (.ref b318), (.ref b318)])) _
      refine XS.iload X334.here hx rfl (hb hby at_190) rfl ?_
      show Steps pP.tables eE below (T334.setTop (mkF mM 192 Ls317 [(.int x2), (.int (2 : Int32)), (.ref b323), (.ref b323), (.ref b318), (.ref b318)])) _
      refine st340 _ ?_
      show Steps pP.tables eE below (T340.setTop (mkF mM 193 Ls317 [(.ref b323), (.ref b318), (.ref b318)])) _
      refine XS.dup X340.here hx rfl (hb hby at_193) rfl rfl ?_
      show Steps pP.tables eE below (T340.setTop (mkF mM 194 Ls317 [(.ref b323), (.ref b323), (.ref b318), (.ref b318)])) _
      refine XS.iconst X340.here hx rfl (hb hby at_194) ?_
      show Steps pP.tables eE below (T340.setTop (mkF mM 195 Ls317 [(.int (3 : Int32)), (.ref b323), (.ref b323), (.ref b318), (.ref b318)])) _
      refine XS.iload X340.here hx rfl (hb hby at_195) rfl ?_
      show Steps pP.tables eE below (T340.setTop (mkF mM 197 Ls317 [(.int x3), (.int (3 : Int32)), (.ref b323), (.ref b323), (.ref b318), (.ref b318)])) _
      refine st346 _ ?_
      show Steps pP.tables eE below (T346.setTop (mkF mM 198 Ls317 [(.ref b323), (.ref b318), (.ref b318)])) _
      refine st356.trans ?_
      show Steps pP.tables eE below (T356.setTop (mkF mM 201 Ls317 [(.ref b318)])) _
      refine XS.astore X356.here hx rfl (hb hby at_201) rfl rfl (l' := Ls362) rfl ?_
      show Steps pP.tables eE below (T356.setTop (mkF mM 203 Ls362 [])) _
      refine st363 _ ?_
      show Steps pP.tables eE below (T363.setTop (mkF mM 206 Ls362 [(.ref b363)])) _
      refine XS.dup X363.here hx rfl (hb hby at_206) rfl rfl ?_
      show Steps pP.tables eE below (T363.setTop (mkF mM 207 Ls362 [(.ref b363), (.ref b363)])) _
      refine XS.aload X363.here hx rfl (hb hby at_207) rfl rfl ?_
      show Steps pP.tables eE below (T363.setTop (mkF mM 209 Ls362 [(.ref b318), (.ref b363), (.ref b363)])) _
      refine XS.lload X363.here hx rfl (hb hby at_209) rfl ?_
      show Steps pP.tables eE below (T363.setTop (mkF mM 211 Ls362 [(.long p5), (.ref b318), (.ref b363), (.ref b363)])) _
      refine st370.trans ?_
      show Steps pP.tables eE below (T370.setTop (mkF mM 214 Ls362 [(.ref b363)])) _
      refine XS.astore X370.here hx rfl (hb hby at_214) rfl rfl (l' := Ls374) rfl ?_
      show Steps pP.tables eE below (T370.setTop (mkF mM 216 Ls374 [])) _
      refine XS.aload X370.here hx rfl (hb hby at_216) rfl rfl ?_
      show Steps pP.tables eE below (T370.setTop (mkF mM 218 Ls374 [(.ref b363)])) _
      refine st380.trans ?_
      show Steps pP.tables eE below (T380.setTop (mkF mM 221 Ls374 [(.ref r_380)])) _
      refine XS.astore X380.here hx rfl (hb hby at_221) rfl rfl (l' := Ls384) rfl ?_
      show Steps pP.tables eE below (T380.setTop (mkF mM 223 Ls384 [])) _
      refine XS.iconst X380.here hx rfl (hb hby at_223) ?_
      show Steps pP.tables eE below (T380.setTop (mkF mM 224 Ls384 [(.int (-1 : Int32))])) _
      refine XS.istore X380.here hx rfl (hb hby at_224) rfl (l' := Ls385) rfl ?_
      show Steps pP.tables eE below (T380.setTop (mkF mM 226 Ls385 [])) _
      refine st386 _ ?_
      show Steps pP.tables eE below (T386.setTop (mkF mM 241 Ls390 [])) _
      refine st391 _ ?_
      show Steps pP.tables eE below (T391.setTop (mkF mM 257 Ls395 [])) _
      refine st396 _ ?_
      show Steps pP.tables eE below (T396.setTop (mkF mM 273 Ls400 [])) _
      refine st401 _ ?_
      show Steps pP.tables eE below (T401.setTop (mkF mM 289 Ls405 [])) _
      refine XS.aload X401.here hx rfl (hb hby at_289) rfl rfl ?_
      show Steps pP.tables eE below (T401.setTop (mkF mM 291 Ls405 [(.ref r_380)])) _
      refine XS.ifnonnullYes X401.here hx rfl (pc0 := 291) (pc' := 296) rfl (hb hby at_291) rfl (by decide) (by decide) ?_
      show Steps pP.tables eE below (T401.setTop (mkF mM 296 Ls405 [])) _
      refine XS.aload X401.here hx rfl (hb hby at_296) rfl rfl ?_
      show Steps pP.tables eE below (T401.setTop (mkF mM 298 Ls405 [(.ref r_380)])) _
      refine st407.trans ?_
      show Steps pP.tables eE below (T407.setTop (mkF mM 301 Ls405 [(.int (Int32.ofNat (([x0, x1, x2, x3].drop (own_ln [x0, x1, x2, x3] (47 : Int32) [x0, x1, x2, x3].length))).length))])) _
      refine XS.iload X407.here hx rfl (hb hby at_301) rfl ?_
      show Steps pP.tables eE below (T407.setTop (mkF mM 303 Ls405 [(.int (4 : Int32)), (.int (Int32.ofNat (([x0, x1, x2, x3].drop (own_ln [x0, x1, x2, x3] (47 : Int32) [x0, x1, x2, x3].length))).length))])) _
      refine XS.iload X407.here hx rfl (hb hby at_303) rfl ?_
      show Steps pP.tables eE below (T407.setTop (mkF mM 305 Ls405 [(.int (own_lx ([x0, x1, x2, x3] : List Int32) (47 : Int32) (3 + 1))), (.int (4 : Int32)), (.int (Int32.ofNat (([x0, x1, x2, x3].drop (own_ln [x0, x1, x2, x3] (47 : Int32) [x0, x1, x2, x3].length))).length))])) _
      refine XS.isub X407.here hx rfl (hb hby at_305) rfl ?_
      show Steps pP.tables eE below (T407.setTop (mkF mM 306 Ls405 [(.int ((4 : Int32) - (own_lx ([x0, x1, x2, x3] : List Int32) (47 : Int32) (3 + 1)))), (.int (Int32.ofNat (([x0, x1, x2, x3].drop (own_ln [x0, x1, x2, x3] (47 : Int32) [x0, x1, x2, x3].length))).length))])) _
      refine XS.iconst X407.here hx rfl (hb hby at_306) ?_
      show Steps pP.tables eE below (T407.setTop (mkF mM 307 Ls405 [(.int (1 : Int32)), (.int ((4 : Int32) - (own_lx ([x0, x1, x2, x3] : List Int32) (47 : Int32) (3 + 1)))), (.int (Int32.ofNat (([x0, x1, x2, x3].drop (own_ln [x0, x1, x2, x3] (47 : Int32) [x0, x1, x2, x3].length))).length))])) _
      refine XS.isub X407.here hx rfl (hb hby at_307) rfl ?_
      show Steps pP.tables eE below (T407.setTop (mkF mM 308 Ls405 [(.int (((4 : Int32) - (own_lx ([x0, x1, x2, x3] : List Int32) (47 : Int32) (3 + 1))) - (1 : Int32))), (.int (Int32.ofNat (([x0, x1, x2, x3].drop (own_ln [x0, x1, x2, x3] (47 : Int32) [x0, x1, x2, x3].length))).length))])) _
      refine XS.icmpYes X407.here hx rfl (pc0 := 308) (pc' := 313) rfl (hb hby at_308) rfl (teq (own_lenk ([x0, x1, x2, x3] : List Int32) (47 : Int32) (Nat.le_of_ble_eq_true rfl))).1 (by decide) (by decide) ?_
      show Steps pP.tables eE below (T407.setTop (mkF mM 313 Ls405 [])) _
      refine XS.aload X407.here hx rfl (hb hby at_313) rfl rfl ?_
      show Steps pP.tables eE below (T407.setTop (mkF mM 315 Ls405 [(.ref r_380)])) _
      refine XS.aload X407.here hx rfl (hb hby at_315) rfl rfl ?_
      show Steps pP.tables eE below (T407.setTop (mkF mM 317 Ls405 [(.ref b10), (.ref r_380)])) _
      refine XS.iload X407.here hx rfl (hb hby at_317) rfl ?_
      show Steps pP.tables eE below (T407.setTop (mkF mM 319 Ls405 [(.int (own_lx ([x0, x1, x2, x3] : List Int32) (47 : Int32) (3 + 1))), (.ref b10), (.ref r_380)])) _
      refine XS.iload X407.here hx rfl (hb hby at_319) rfl ?_
      show Steps pP.tables eE below (T407.setTop (mkF mM 321 Ls405 [(.int (4 : Int32)), (.int (own_lx ([x0, x1, x2, x3] : List Int32) (47 : Int32) (3 + 1))), (.ref b10), (.ref r_380)])) _
      refine XS.iconst X407.here hx rfl (hb hby at_321) ?_
      show Steps pP.tables eE below (T407.setTop (mkF mM 322 Ls405 [(.int (0 : Int32)), (.int (4 : Int32)), (.int (own_lx ([x0, x1, x2, x3] : List Int32) (47 : Int32) (3 + 1))), (.ref b10), (.ref r_380)])) _
      refine st409 _ ?_
      show Steps pP.tables eE below (T409.setTop (mkF mM 325 Ls405 [(.int (1 : Int32))])) _
      refine XS.ifNo X409.here hx rfl (hb hby at_325) rfl ((if0 _ _).trans (feq (by decide : ¬ ((1 : Int32) = (0 : Int32)))).1) ?_
      show Steps pP.tables eE below (T409.setTop (mkF mM 328 Ls405 [])) _
      refine XS.aload X409.here hx rfl (hb hby at_328) rfl rfl ?_
      show Steps pP.tables eE below (T409.setTop (mkF mM 330 Ls405 [(.ref r_380)])) _
      refine XS.aload X409.here hx rfl (hb hby at_330) rfl rfl ?_
      show Steps pP.tables eE below (T409.setTop (mkF mM 332 Ls405 [(.ref b10), (.ref r_380)])) _
      refine XS.iload X409.here hx rfl (hb hby at_332) rfl ?_
      show Steps pP.tables eE below (T409.setTop (mkF mM 334 Ls405 [(.int (own_lx ([x0, x1, x2, x3] : List Int32) (47 : Int32) (3 + 1))), (.ref b10), (.ref r_380)])) _
      refine XS.iload X409.here hx rfl (hb hby at_334) rfl ?_
      show Steps pP.tables eE below (T409.setTop (mkF mM 336 Ls405 [(.int (4 : Int32)), (.int (own_lx ([x0, x1, x2, x3] : List Int32) (47 : Int32) (3 + 1))), (.ref b10), (.ref r_380)])) _
      refine XS.iconst X409.here hx rfl (hb hby at_336) ?_
      show Steps pP.tables eE below (T409.setTop (mkF mM 337 Ls405 [(.int (1 : Int32)), (.int (4 : Int32)), (.int (own_lx ([x0, x1, x2, x3] : List Int32) (47 : Int32) (3 + 1))), (.ref b10), (.ref r_380)])) _
      refine st410 _ ?_
      show Steps pP.tables eE below (T410.setTop (mkF mM 340 Ls405 [(.int (1 : Int32))])) _
      refine XS.ifNo X410.here hx rfl (hb hby at_340) rfl ((if0 _ _).trans (feq (by decide : ¬ ((1 : Int32) = (0 : Int32)))).1) ?_
      show Steps pP.tables eE below (T410.setTop (mkF mM 343 Ls405 [])) _
      refine XS.aload X410.here hx rfl (hb hby at_343) rfl rfl ?_
      show Steps pP.tables eE below (T410.setTop (mkF mM 345 Ls405 [(.ref r_380)])) _
      refine XS.aload X410.here hx rfl (hb hby at_345) rfl rfl ?_
      show Steps pP.tables eE below (T410.setTop (mkF mM 347 Ls405 [(.ref b10), (.ref r_380)])) _
      refine XS.iload X410.here hx rfl (hb hby at_347) rfl ?_
      show Steps pP.tables eE below (T410.setTop (mkF mM 349 Ls405 [(.int (own_lx ([x0, x1, x2, x3] : List Int32) (47 : Int32) (3 + 1))), (.ref b10), (.ref r_380)])) _
      refine XS.iload X410.here hx rfl (hb hby at_349) rfl ?_
      show Steps pP.tables eE below (T410.setTop (mkF mM 351 Ls405 [(.int (4 : Int32)), (.int (own_lx ([x0, x1, x2, x3] : List Int32) (47 : Int32) (3 + 1))), (.ref b10), (.ref r_380)])) _
      refine XS.iconst X410.here hx rfl (hb hby at_351) ?_
      show Steps pP.tables eE below (T410.setTop (mkF mM 352 Ls405 [(.int (2 : Int32)), (.int (4 : Int32)), (.int (own_lx ([x0, x1, x2, x3] : List Int32) (47 : Int32) (3 + 1))), (.ref b10), (.ref r_380)])) _
      refine st411 _ ?_
      show Steps pP.tables eE below (T411.setTop (mkF mM 355 Ls405 [(.int (1 : Int32))])) _
      refine XS.ifNo X411.here hx rfl (hb hby at_355) rfl ((if0 _ _).trans (feq (by decide : ¬ ((1 : Int32) = (0 : Int32)))).1) ?_
      show Steps pP.tables eE below (T411.setTop (mkF mM 358 Ls405 [])) _
      refine XS.aload X411.here hx rfl (hb hby at_358) rfl rfl ?_
      show Steps pP.tables eE below (T411.setTop (mkF mM 360 Ls405 [(.ref r_380)])) _
      refine XS.aload X411.here hx rfl (hb hby at_360) rfl rfl ?_
      show Steps pP.tables eE below (T411.setTop (mkF mM 362 Ls405 [(.ref b10), (.ref r_380)])) _
      refine XS.iload X411.here hx rfl (hb hby at_362) rfl ?_
      show Steps pP.tables eE below (T411.setTop (mkF mM 364 Ls405 [(.int (own_lx ([x0, x1, x2, x3] : List Int32) (47 : Int32) (3 + 1))), (.ref b10), (.ref r_380)])) _
      refine XS.iload X411.here hx rfl (hb hby at_364) rfl ?_
      show Steps pP.tables eE below (T411.setTop (mkF mM 366 Ls405 [(.int (4 : Int32)), (.int (own_lx ([x0, x1, x2, x3] : List Int32) (47 : Int32) (3 + 1))), (.ref b10), (.ref r_380)])) _
      refine XS.iconst X411.here hx rfl (hb hby at_366) ?_
      show Steps pP.tables eE below (T411.setTop (mkF mM 367 Ls405 [(.int (3 : Int32)), (.int (4 : Int32)), (.int (own_lx ([x0, x1, x2, x3] : List Int32) (47 : Int32) (3 + 1))), (.ref b10), (.ref r_380)])) _
      refine st412 _ ?_
      show Steps pP.tables eE below (T412.setTop (mkF mM 370 Ls405 [(.int (1 : Int32))])) _
      refine XS.ifNo X412.here hx rfl (hb hby at_370) rfl ((if0 _ _).trans (feq (by decide : ¬ ((1 : Int32) = (0 : Int32)))).1) ?_
      show Steps pP.tables eE below (T412.setTop (mkF mM 373 Ls405 [])) _
      refine XS.iconst X412.here hx rfl (hb hby at_373) ?_
      show Steps pP.tables eE below (T412.setTop (mkF mM 374 Ls405 [(.int (1 : Int32))])) _
      refine XS.goto X412.here hx rfl (pc0 := 374) (pc' := 378) rfl (hb hby at_374) (by decide) (by decide) ?_
      show Steps pP.tables eE below (T412.setTop (mkF mM 378 Ls405 [(.int (1 : Int32))])) _
      exact retN X412 hx (t := .boolean) Bd.returns (by simp) (hb hby at_378) hr
    · show Q_law Z p0 p1 p2 p3 p4 p5 zc fm h0 n0 _ T412.heap _
      rw [Kq412]
      exact ⟨rfl, N380, K383⟩
    · show CHr Z own_EL sS.vm sS.heap T412.vm T412.heap
      rw [hh, Kq412]
      exact CH381.trans (CHv.at X412 hZ380 hEL CH381.1)
theorem own_held {s : State} (h : constsHeld consts_1 s) : ∀ p ∈ own_EL, Jvm.Lit.constHeld s p.1 p.2 := fun p hp => h p ((by decide : ∀ p ∈ own_EL, p ∈ consts_1) p hp)
set_option maxRecDepth 65536 in
set_option maxHeartbeats 40000000 in
theorem comes_1 {Post : Tables → Env → Array Value → State → Outcome → State → Prop} (hpost : ∀ tb e args s v u, (limb_1_1.after args s (.returned v) u = true ∧ limb_1_2.after args s (.returned v) u = true ∧ True) → ReturnedEndW s (.returned v) u (Jvm.fieldLocs frame_1_writes args s ++ Jvm.arrayLocs frame_1_arrays args s ++ Jvm.staticLocs frame_1_statics s) 32 3200 → Post tb e args s (.returned v) u) :
    ArmFor flags0 classFile x code maxLocals ret World_1 tables_1 room_1 Calls_1 rest_1 Pre_1 Post := by
  intro l hfl _ _ p e ha hc hk s m args below hf hA hF happ hP
  obtain ⟨hcalls, hrest, hpre⟩ := hP
  obtain ⟨-, -, -, hnamed, -, -, -, hat⟩ := (Spec.applies_iff hf).mp happ
  obtain ⟨hg, hn⟩ := and_e (Cond.before_iff.mp (show (Jvm.Cond.and given_1 narrow_1).before args s = true from hpre))
  obtain ⟨hcnt, hg0⟩ := and_e hg
  obtain ⟨ga0, hg1⟩ := and_e hg0
  obtain ⟨ga1, hg2⟩ := and_e hg1
  obtain ⟨ga2, hg3⟩ := and_e hg2
  obtain ⟨ga3, hg4⟩ := and_e hg3
  obtain ⟨ga4, hg5⟩ := and_e hg4
  have ga5 := hg5
  obtain ⟨w0, w1, w2, w3, w4, w5, rfl⟩ : ∃ w0 w1 w2 w3 w4 w5 : Value, args = #[w0, w1, w2, w3, w4, w5] := by
    have hs : args.size = 6 := by simpa [Cond.value, given_1] using hcnt
    obtain ⟨L⟩ := args
    match L, hs with
    | [w0, w1, w2, w3, w4, w5], _ => exact ⟨w0, w1, w2, w3, w4, w5, rfl⟩
  have hw := fun d (hd : d ∈ tables_1) => atoms_spec (ws := Jvm.Cond.code x code maxLocals ret :: tables_1) hat d (List.mem_cons_of_mem _ hd)
  have hfit : Fit s := fun {y c} hc i hi => by
    obtain ⟨ha, rfl⟩ := Array.getElem?_eq_some_iff.mp hc
    have q := List.all_eq_true.mp ((Array.all_eq_true_iff_forall_mem.mp hF) _ (Array.getElem_mem ha)) i (List.mem_range.mpr hi)
    simpa [Array.getElem?_eq_getElem hi] using q
  obtain ⟨i0, ei0⟩ := is_v ga0
  obtain rfl : w0 = (.int i0) := Option.some.inj ei0
  obtain ⟨i1, ei1⟩ := is_v ga1
  obtain rfl : w1 = (.int i1) := Option.some.inj ei1
  obtain ⟨i2, ei2⟩ := is_v ga2
  obtain rfl : w2 = (.int i2) := Option.some.inj ei2
  obtain ⟨i3, ei3⟩ := is_v ga3
  obtain rfl : w3 = (.int i3) := Option.some.inj ei3
  obtain ⟨i4, ei4⟩ := is_v ga4
  obtain rfl : w4 = (.int i4) := Option.some.inj ei4
  obtain ⟨i5, ei5⟩ := isL_v ga5
  obtain rfl : w5 = (.long i5) := Option.some.inj ei5
  obtain ⟨hsets, hown0⟩ := atoms_of _ (rest_1_c_eq ▸ (show rest_1_c.before _ s = true from hrest))
  have hr0 := Cond.before_iff.mp hown0
  have nzc := not_v (Cond.before_iff.mp (hsets _ (List.mem_of_getElem? (i := 2) rfl)))
  obtain ⟨zc, ezc⟩ := is_v (Cond.before_iff.mp (hsets _ (List.mem_of_getElem? (i := 1) rfl)))
  have Szc : Sta s s.heap "java/lang/String" "COMPACT_STRINGS" "Z" (.int zc) := Sta.start ezc (Or.inl (hsets _ (List.mem_of_getElem? (i := 0) rfl)))
  obtain ⟨fm, efm, rfm⟩ := isR_v (Cond.before_iff.mp (hsets _ (List.mem_of_getElem? (i := 8) rfl)))
  have Sfm : Sta s s.heap "jdk/internal/util/Preconditions" "SIOOBE_FORMATTER" "Ljava/util/function/BiFunction;" fm := Sta.start efm (Or.inl (hsets _ (List.mem_of_getElem? (i := 7) rfl)))
  have hzc : ¬ (zc = (0 : Int32)) := gotF (Cond.eq_ints ezc (Term.int_eval (0))) nzc
  have hcw : Jvm.Lit.compactW.before #[(.int i0), (.int i1), (.int i2), (.int i3), (.int i4), (.long i5)] s = true := hsets _ (List.mem_of_getElem? (i := 2) rfl)
  have hCH : CHv s own_EL s.vm s.heap := CHv.start (own_EW hw) (fun p hp => own_held (hcalls.1) p hp) hcw (w_19 hw) (w_6 hw)
  obtain ⟨n, o, h1, h2, h3, _, L, rfl, ⟨rfl, N, _⟩, -, q1, q2, q3, hq⟩ := rm_law l s _ hw tables_1 i0 i1 i2 i3 i4 i5 zc fm s.heap s.heap.size (Old.start s) Szc hzc Sfm rfm p e ha hc hk s m _ below hf ((Spec.applies_iff_loose hf).mp happ).1 ⟨rfl, State.Warmed39.refl s, rfl, hCH, sf0⟩ trivial
  refine ⟨n, _, h1, h2, h3, hpost _ _ _ _ _ _ ⟨Cond.after_iff.mpr rfl, Cond.after_iff.mpr (eq_i res_at (Term.int_eval (1)) rfl), trivial⟩ ⟨q1, q2, q3, (hq.sift fun y hy => Or.inr (N y hy)).mono (by decide) (by decide)⟩⟩
theorem main_1_1 : Claimed_1_1 := comes_1 fun _ _ _ _ _ _ h hF => ⟨h.1, hF⟩
theorem main_1_2 : Claimed_1_2 := comes_1 fun _ _ _ _ _ _ h hF => ⟨h.2.1, hF⟩
end Jvm.Pilot.@@N@@
namespace Jvm.Pilot.@@N@@
open Jvm Jvm.ClassFile Sem Op Lib Jvm.Free Jvm.Stand Jvm.Pilot.@@N@@.Jvm.D
/-! MADE BY PROGRAM (witnessworld.py) out of the Statement's table words and the real class files: 24 classes; the members and pool entries that the words name. The judged class is class 1, her method 3. -/
namespace start1
open Jvm.ClassFile
def u (s : String) : CpInfo := .utf8 (stringToUtf16 s)
/-- a pool by its gaps: so many unusable entries, then the entry; so many at the end -/
def gap : Nat → List CpInfo → List CpInfo
  | 0, r => r
  | n + 1, r => .unusable :: gap n r
def poolList (es : List (Nat × CpInfo)) (last : Nat) : List CpInfo := es.foldr (fun e r => gap e.1 (e.2 :: r)) (gap last [])
def pool (es : List (Nat × CpInfo)) (last : Nat) : Array CpInfo := ⟨poolList es last⟩
def fileOf (pool : Array CpInfo) (this : Nat) (attrs : Array Attribute := #[]) (ms : Array MethodInfo := #[]) (fl : Nat := 33) (sup : Nat := 0) (ifs : Array Nat := #[]) (fds : Array FieldInfo := #[]) : ClassFile where
  minorVersion := 0
  majorVersion := 65
  constantPool := pool
  accessFlags := fl
  thisClass := this
  superClass := sup
  interfaces := ifs
  fields := fds
  methods := ms
  attributes := attrs
def plain (name : String) (sup : Option ClassId) : Class where
  name := name
  kind := .ordinary
  loader := none
  accessFlags := 33
  super := sup
  interfaces := #[]
  cf := none
  fields := #[]
  methods := #[]
  instanceTypes := #[]
  staticTypes := #[]
  resolved := #[]
  callSites := []
  init := .initialized
  statics := none
  mirror := none

def pool0 : Array CpInfo := pool [(5, u "<init>"), (0, u "()V"), (1, .class_ 10), (1, u "java/lang/Object")] 113

def k0c0 : Code := { maxStack := 0, maxLocals := 1, code := object_method_1_code, exceptionTable := #[], attributes := #[] }
def k0m0 : Method := { name := "<init>", desc := "()V", sig := { parameters := [], returnType := none }, accessFlags := 1, code := some k0c0 }
/-- java/lang/Object -/
def k0 : Class := { plain "java/lang/Object" none with
  accessFlags := 33
  interfaces := #[]
  cf := some (fileOf pool0 8 #[] #[{ accessFlags := 1, nameIndex := 5, descriptorIndex := 6, attributes := #[] }] 33 0 #[] #[])
  fields := #[]
  methods := #[k0m0]
  instanceTypes := #[]
  staticTypes := #[]
  resolved := Array.replicate 124 none
  statics := none }

def pool1 : Array CpInfo := pool [(2, .class_ 4), (1, u "java/lang/Object"), (0, u "<init>"), (0, u "()V"), (0, .methodref 8 9), (0, .class_ 10), (0, .nameAndType 11 12), (0, u "java/lang/String"), (0, u "charAt"), (0, u "(I)C"), (0, .methodref 14 15), (0, .class_ 16), (0, .nameAndType 17 12), (0, u "com/example/ullr/ullr/files/ListedFileNamePinLaw"), (0, u "pick"), (0, .methodref 8 19), (0, .nameAndType 5 20), (0, u "([C)V"), (0, .class_ 22), (0, u "com/example/ullr/ullr/files/ListedFile"), (0, .methodref 21 24), (0, .nameAndType 5 25), (0, u "(Ljava/lang/String;J)V"), (0, .methodref 21 27), (0, .nameAndType 28 29), (0, u "name"), (0, u "()Ljava/lang/String;"), (0, .methodref 8 31), (0, .nameAndType 32 33), (0, u "length"), (0, u "()I"), (0, .methodref 14 35), (0, .nameAndType 36 37), (0, u "at"), (0, u "(Ljava/lang/String;[CIII)Z"), (3, u "law"), (0, u "(IIIIIJ)Z")] 4

def k1m0 : Method := { name := "<init>", desc := "()V", sig := { parameters := [], returnType := none }, accessFlags := 1, code := none }
def k1c1 : Code := { maxStack := 2, maxLocals := 1, code := method_2_code, exceptionTable := #[], attributes := #[] }
def k1m1 : Method := { name := "pick", desc := "(I)C", sig := { parameters := [.int], returnType := some .char }, accessFlags := 10, code := some k1c1 }
def k1c2 : Code := { maxStack := 3, maxLocals := 5, code := method_3_code, exceptionTable := #[], attributes := #[] }
def k1m2 : Method := { name := "at", desc := "(Ljava/lang/String;[CIII)Z", sig := { parameters := [(.object "java/lang/String"), (.array .char), .int, .int, .int], returnType := some .boolean }, accessFlags := 10, code := some k1c2 }
def k1c3 : Code := { maxStack := 6, maxLocals := 17, code := code, exceptionTable := #[], attributes := #[] }
def k1m3 : Method := { name := "law", desc := "(IIIIIJ)Z", sig := { parameters := [.int, .int, .int, .int, .int, .long], returnType := some .boolean }, accessFlags := 9, code := some k1c3 }
/-- com/example/ullr/ullr/files/ListedFileNamePinLaw -/
def k1 : Class := { plain "com/example/ullr/ullr/files/ListedFileNamePinLaw" (some 0) with
  accessFlags := 49
  interfaces := #[]
  cf := some (fileOf pool1 14 #[] #[{ accessFlags := 1, nameIndex := 5, descriptorIndex := 6, attributes := #[] }, { accessFlags := 10, nameIndex := 17, descriptorIndex := 12, attributes := #[] }, { accessFlags := 10, nameIndex := 36, descriptorIndex := 37, attributes := #[] }, { accessFlags := 9, nameIndex := 41, descriptorIndex := 42, attributes := #[] }] 49 2 #[] #[])
  fields := #[]
  methods := #[k1m0, k1m1, k1m2, k1m3]
  instanceTypes := #[]
  staticTypes := #[]
  resolved := Array.replicate 47 none
  statics := none }

def pool2 : Array CpInfo := pool [(1, .class_ 2), (0, u "java/io/Serializable"), (0, .class_ 4), (0, u "java/lang/Object")] 2

/-- java/io/Serializable -/
def k2 : Class := { plain "java/io/Serializable" (some 0) with
  accessFlags := 1537
  interfaces := #[]
  cf := some (fileOf pool2 1 #[] #[] 1537 3 #[] #[])
  fields := #[]
  methods := #[]
  instanceTypes := #[]
  staticTypes := #[]
  resolved := Array.replicate 7 none
  statics := none }

def pool3 : Array CpInfo := pool [(1, .class_ 2), (0, u "java/lang/Comparable"), (0, .class_ 4), (0, u "java/lang/Object")] 7

/-- java/lang/Comparable -/
def k3 : Class := { plain "java/lang/Comparable" (some 0) with
  accessFlags := 1537
  interfaces := #[]
  cf := some (fileOf pool3 1 #[] #[] 1537 3 #[] #[])
  fields := #[]
  methods := #[]
  instanceTypes := #[]
  staticTypes := #[]
  resolved := Array.replicate 12 none
  statics := none }

def pool4 : Array CpInfo := pool [(2, .class_ 4), (1, u "java/lang/CharSequence"), (42, .class_ 48), (0, u "java/lang/CharSequence$1CodePointIterator"), (10, .class_ 60), (0, u "java/lang/CharSequence$1CharIterator"), (5, .class_ 67), (0, u "java/lang/Object")] 63

/-- java/lang/CharSequence -/
def k4 : Class := { plain "java/lang/CharSequence" (some 0) with
  accessFlags := 1537
  interfaces := #[]
  cf := some (fileOf pool4 2 #[.nestMembers #[47, 59]] #[] 1537 66 #[] #[])
  fields := #[]
  methods := #[]
  instanceTypes := #[]
  staticTypes := #[]
  resolved := Array.replicate 131 none
  statics := none }

def pool5 : Array CpInfo := pool [(1, .class_ 2), (0, u "java/lang/constant/Constable"), (0, .class_ 4), (0, u "java/lang/Object")] 6

/-- java/lang/constant/Constable -/
def k5 : Class := { plain "java/lang/constant/Constable" (some 0) with
  accessFlags := 1537
  interfaces := #[]
  cf := some (fileOf pool5 1 #[] #[] 1537 3 #[] #[])
  fields := #[]
  methods := #[]
  instanceTypes := #[]
  staticTypes := #[]
  resolved := Array.replicate 11 none
  statics := none }

def pool6 : Array CpInfo := pool [(1, .class_ 2), (0, u "java/lang/constant/ConstantDesc"), (0, .class_ 4), (0, u "java/lang/Object")] 32

/-- java/lang/constant/ConstantDesc -/
def k6 : Class := { plain "java/lang/constant/ConstantDesc" (some 0) with
  accessFlags := 1537
  interfaces := #[]
  cf := some (fileOf pool6 1 #[] #[] 1537 3 #[] #[])
  fields := #[]
  methods := #[]
  instanceTypes := #[]
  staticTypes := #[]
  resolved := Array.replicate 37 none
  statics := none }

def pool7 : Array CpInfo := pool [(1, .methodref 2 3), (0, .class_ 4), (0, .nameAndType 5 6), (0, u "java/lang/Object"), (0, u "<init>"), (0, u "()V"), (0, .string 8), (0, u ""), (0, .fieldref 10 11), (0, .class_ 12), (0, .nameAndType 13 14), (0, u "java/lang/String"), (0, u "value"), (0, u "[B"), (0, .fieldref 10 16), (0, .nameAndType 17 18), (0, u "coder"), (0, u "B"), (2, u "hash"), (0, u "I"), (2, u "hashIsZero"), (0, u "Z"), (0, .methodref 10 28), (0, .nameAndType 5 29), (0, u "([CIILjava/lang/Void;)V"), (8, .fieldref 10 39), (0, .nameAndType 40 26), (0, u "COMPACT_STRINGS"), (1, .class_ 44), (1, u "java/lang/StringUTF16"), (0, u "compress"), (1, .methodref 42 48), (0, .nameAndType 49 50), (0, u "coderFromArrayLen"), (0, u "([BI)B"), (46, u "([BII)I"), (9, .class_ 109), (1, u "java/lang/StringLatin1"), (32, u "()Z"), (34, .methodref 42 178), (0, .nameAndType 45 179), (0, u "([CII)[B"), (31, u "([BB)V"), (122, u "()I"), (0, .methodref 10 336), (0, .nameAndType 17 337), (0, u "()B"), (25, u "([BI)C"), (27, u "(II)V"), (35, u "(I)C"), (64, .methodref 10 493), (0, .nameAndType 494 142), (0, u "isLatin1"), (0, .methodref 107 496), (0, .nameAndType 497 363), (0, u "charAt"), (3, u "checkIndex"), (3, .methodref 10 506), (0, .nameAndType 507 334), (0, u "length"), (5, u "checkFromToIndex"), (7, .methodref 10 522), (0, .nameAndType 523 524), (0, u "checkBoundsBeginEnd"), (0, u "(III)V"), (50, .class_ 576), (0, u "java/lang/CharSequence"), (22, u "CASE_INSENSITIVE_ORDER"), (0, u "Ljava/util/Comparator;"), (35, u "(II)I"), (4, .methodref 10 642), (0, .nameAndType 643 636), (0, u "lastIndexOf"), (0, .methodref 107 645), (0, .nameAndType 643 97), (35, .methodref 10 682), (0, .nameAndType 683 684), (0, u "substring"), (0, u "(II)Ljava/lang/String;"), (0, .methodref 107 686), (0, .nameAndType 687 688), (0, u "newString"), (0, u "([BII)Ljava/lang/String;"), (76, u "(I)I"), (126, u "(I)Ljava/lang/String;"), (117, u "([C)V"), (42, .fieldref 1054 1055), (0, .class_ 1056), (0, .nameAndType 1057 1058), (0, u "jdk/internal/util/Preconditions"), (0, u "SIOOBE_FORMATTER"), (0, u "Ljava/util/function/BiFunction;"), (0, .methodref 1054 1060), (0, .nameAndType 501 1061), (0, u "(IILjava/util/function/BiFunction;)I"), (0, .methodref 1054 1063), (0, .nameAndType 513 1064), (0, u "(IIILjava/util/function/BiFunction;)I"), (36, u "serialPersistentFields"), (0, u "[Ljava/io/ObjectStreamField;"), (0, .class_ 1104), (0, u "java/lang/String$CaseInsensitiveComparator"), (1, .class_ 1107), (0, u "java/io/Serializable"), (0, .class_ 1109), (0, u "java/lang/Comparable"), (0, .class_ 1111), (0, u "java/lang/constant/Constable"), (0, .class_ 1113), (0, u "java/lang/constant/ConstantDesc"), (2, u "serialVersionUID"), (0, u "J"), (3, u "REPL"), (0, u "C"), (2, u "LATIN1"), (1, u "UTF16")] 323

def k7m0 : Method := { name := "<init>", desc := "()V", sig := { parameters := [], returnType := none }, accessFlags := 1, code := none }
def k7c1 : Code := { maxStack := 5, maxLocals := 2, code := jdk_42_method_3_code, exceptionTable := #[], attributes := #[] }
def k7m1 : Method := { name := "<init>", desc := "([C)V", sig := { parameters := [(.array .char)], returnType := none }, accessFlags := 1, code := some k7c1 }
def k7c2 : Code := { maxStack := 2, maxLocals := 1, code := jdk_42_method_54_code, exceptionTable := #[], attributes := #[] }
def k7m2 : Method := { name := "length", desc := "()I", sig := { parameters := [], returnType := some .int }, accessFlags := 1, code := some k7c2 }
def k7c3 : Code := { maxStack := 2, maxLocals := 2, code := jdk_42_method_56_code, exceptionTable := #[], attributes := #[] }
def k7m3 : Method := { name := "charAt", desc := "(I)C", sig := { parameters := [.int], returnType := some .char }, accessFlags := 1, code := some k7c3 }
def k7c4 : Code := { maxStack := 4, maxLocals := 2, code := jdk_42_method_82_code, exceptionTable := #[], attributes := #[] }
def k7m4 : Method := { name := "lastIndexOf", desc := "(I)I", sig := { parameters := [.int], returnType := some .int }, accessFlags := 1, code := some k7c4 }
def k7c5 : Code := { maxStack := 3, maxLocals := 3, code := jdk_42_method_83_code, exceptionTable := #[], attributes := #[] }
def k7m5 : Method := { name := "lastIndexOf", desc := "(II)I", sig := { parameters := [.int, .int], returnType := some .int }, accessFlags := 1, code := some k7c5 }
def k7c6 : Code := { maxStack := 3, maxLocals := 2, code := jdk_42_method_91_code, exceptionTable := #[], attributes := #[] }
def k7m6 : Method := { name := "substring", desc := "(I)Ljava/lang/String;", sig := { parameters := [.int], returnType := some (.object "java/lang/String") }, accessFlags := 1, code := some k7c6 }
def k7c7 : Code := { maxStack := 3, maxLocals := 5, code := jdk_42_method_92_code, exceptionTable := #[], attributes := #[] }
def k7m7 : Method := { name := "substring", desc := "(II)Ljava/lang/String;", sig := { parameters := [.int, .int], returnType := some (.object "java/lang/String") }, accessFlags := 1, code := some k7c7 }
def k7c8 : Code := { maxStack := 4, maxLocals := 6, code := jdk_42_method_149_code, exceptionTable := #[], attributes := #[] }
def k7m8 : Method := { name := "<init>", desc := "([CIILjava/lang/Void;)V", sig := { parameters := [(.array .char), .int, .int, (.object "java/lang/Void")], returnType := none }, accessFlags := 2, code := some k7c8 }
def k7c9 : Code := { maxStack := 2, maxLocals := 3, code := jdk_42_method_151_code, exceptionTable := #[], attributes := #[] }
def k7m9 : Method := { name := "<init>", desc := "([BB)V", sig := { parameters := [(.array .byte), .byte], returnType := none }, accessFlags := 0, code := some k7c9 }
def k7c10 : Code := { maxStack := 1, maxLocals := 1, code := jdk_42_method_152_code, exceptionTable := #[], attributes := #[] }
def k7m10 : Method := { name := "coder", desc := "()B", sig := { parameters := [], returnType := some .byte }, accessFlags := 0, code := some k7c10 }
def k7c11 : Code := { maxStack := 1, maxLocals := 1, code := jdk_42_method_154_code, exceptionTable := #[], attributes := #[] }
def k7m11 : Method := { name := "isLatin1", desc := "()Z", sig := { parameters := [], returnType := some .boolean }, accessFlags := 0, code := some k7c11 }
def k7c12 : Code := { maxStack := 3, maxLocals := 2, code := jdk_42_method_155_code, exceptionTable := #[], attributes := #[] }
def k7m12 : Method := { name := "checkIndex", desc := "(II)V", sig := { parameters := [.int, .int], returnType := none }, accessFlags := 8, code := some k7c12 }
def k7c13 : Code := { maxStack := 4, maxLocals := 3, code := jdk_42_method_158_code, exceptionTable := #[], attributes := #[] }
def k7m13 : Method := { name := "checkBoundsBeginEnd", desc := "(III)V", sig := { parameters := [.int, .int, .int], returnType := none }, accessFlags := 8, code := some k7c13 }
/-- java/lang/String -/
def k7 : Class := { plain "java/lang/String" (some 0) with
  accessFlags := 49
  interfaces := #[2, 3, 4, 5, 6]
  cf := some (fileOf pool7 10 #[.nestMembers #[1103]] #[{ accessFlags := 1, nameIndex := 5, descriptorIndex := 6, attributes := #[] }, { accessFlags := 1, nameIndex := 5, descriptorIndex := 1010, attributes := #[] }, { accessFlags := 1, nameIndex := 507, descriptorIndex := 334, attributes := #[] }, { accessFlags := 1, nameIndex := 497, descriptorIndex := 427, attributes := #[] }, { accessFlags := 1, nameIndex := 643, descriptorIndex := 765, attributes := #[] }, { accessFlags := 1, nameIndex := 643, descriptorIndex := 636, attributes := #[] }, { accessFlags := 1, nameIndex := 683, descriptorIndex := 892, attributes := #[] }, { accessFlags := 1, nameIndex := 683, descriptorIndex := 684, attributes := #[] }, { accessFlags := 2, nameIndex := 5, descriptorIndex := 29, attributes := #[] }, { accessFlags := 0, nameIndex := 5, descriptorIndex := 211, attributes := #[] }, { accessFlags := 0, nameIndex := 17, descriptorIndex := 337, attributes := #[] }, { accessFlags := 0, nameIndex := 494, descriptorIndex := 142, attributes := #[] }, { accessFlags := 8, nameIndex := 501, descriptorIndex := 391, attributes := #[] }, { accessFlags := 8, nameIndex := 523, descriptorIndex := 524, attributes := #[] }] 49 2 #[1106, 1108, 575, 1110, 1112] #[{ accessFlags := 18, nameIndex := 13, descriptorIndex := 14, attributes := #[] }, { accessFlags := 18, nameIndex := 17, descriptorIndex := 18, attributes := #[] }, { accessFlags := 2, nameIndex := 21, descriptorIndex := 22, attributes := #[] }, { accessFlags := 2, nameIndex := 25, descriptorIndex := 26, attributes := #[] }, { accessFlags := 26, nameIndex := 1116, descriptorIndex := 1117, attributes := #[] }, { accessFlags := 24, nameIndex := 40, descriptorIndex := 26, attributes := #[] }, { accessFlags := 26, nameIndex := 1101, descriptorIndex := 1102, attributes := #[] }, { accessFlags := 26, nameIndex := 1121, descriptorIndex := 1122, attributes := #[] }, { accessFlags := 25, nameIndex := 599, descriptorIndex := 600, attributes := #[] }, { accessFlags := 24, nameIndex := 1125, descriptorIndex := 18, attributes := #[] }, { accessFlags := 24, nameIndex := 1127, descriptorIndex := 18, attributes := #[] }])
  fields := #[{ name := "value", type := (.array .byte), accessFlags := 18, slot := 0, constantValue := 0 }, { name := "coder", type := .byte, accessFlags := 18, slot := 1, constantValue := 0 }, { name := "hash", type := .int, accessFlags := 2, slot := 2, constantValue := 0 }, { name := "hashIsZero", type := .boolean, accessFlags := 2, slot := 3, constantValue := 0 }, { name := "serialVersionUID", type := .long, accessFlags := 26, slot := 0, constantValue := 0 }, { name := "COMPACT_STRINGS", type := .boolean, accessFlags := 24, slot := 1, constantValue := 0 }, { name := "serialPersistentFields", type := (.array (.object "java/io/ObjectStreamField")), accessFlags := 26, slot := 2, constantValue := 0 }, { name := "REPL", type := .char, accessFlags := 26, slot := 3, constantValue := 0 }, { name := "CASE_INSENSITIVE_ORDER", type := (.object "java/util/Comparator"), accessFlags := 25, slot := 4, constantValue := 0 }, { name := "LATIN1", type := .byte, accessFlags := 24, slot := 5, constantValue := 0 }, { name := "UTF16", type := .byte, accessFlags := 24, slot := 6, constantValue := 0 }]
  methods := #[k7m0, k7m1, k7m2, k7m3, k7m4, k7m5, k7m6, k7m7, k7m8, k7m9, k7m10, k7m11, k7m12, k7m13]
  instanceTypes := #[(.array .byte), .byte, .int, .boolean]
  staticTypes := #[.long, .boolean, (.array (.object "java/io/ObjectStreamField")), .char, (.object "java/util/Comparator"), .byte, .byte]
  resolved := Array.replicate 1451 none
  statics := some 0 }

def pool8 : Array CpInfo := pool [(1, .methodref 2 3), (0, .class_ 4), (0, .nameAndType 5 6), (0, u "java/lang/Object"), (0, u "<init>"), (0, u "()V"), (0, .string 8), (0, u "path"), (0, .methodref 10 11), (0, .class_ 12), (0, .nameAndType 13 14), (0, u "java/util/Objects"), (0, u "requireNonNull"), (0, u "(Ljava/lang/Object;Ljava/lang/String;)Ljava/lang/Object;"), (0, .class_ 16), (0, u "java/lang/String"), (0, .fieldref 18 19), (0, .class_ 20), (0, .nameAndType 21 22), (0, u "com/example/ullr/ullr/files/ListedFile"), (0, u "_path"), (0, u "Ljava/lang/String;"), (0, .fieldref 18 24), (0, .nameAndType 25 26), (0, u "_bytes"), (0, u "J"), (0, .methodref 15 28), (0, .nameAndType 29 30), (0, u "lastIndexOf"), (0, u "(I)I"), (0, .methodref 15 32), (0, .nameAndType 33 34), (0, u "substring"), (0, u "(I)Ljava/lang/String;"), (4, u "(Ljava/lang/String;J)V"), (2, u "()Ljava/lang/String;"), (2, u "name")] 18

def k8c0 : Code := { maxStack := 3, maxLocals := 4, code := prog_26_method_1_code, exceptionTable := #[], attributes := #[] }
def k8m0 : Method := { name := "<init>", desc := "(Ljava/lang/String;J)V", sig := { parameters := [(.object "java/lang/String"), .long], returnType := none }, accessFlags := 1, code := some k8c0 }
def k8c1 : Code := { maxStack := 3, maxLocals := 1, code := prog_26_method_4_code, exceptionTable := #[], attributes := #[] }
def k8m1 : Method := { name := "name", desc := "()Ljava/lang/String;", sig := { parameters := [], returnType := some (.object "java/lang/String") }, accessFlags := 1, code := some k8c1 }
/-- com/example/ullr/ullr/files/ListedFile -/
def k8 : Class := { plain "com/example/ullr/ullr/files/ListedFile" (some 0) with
  accessFlags := 49
  interfaces := #[]
  cf := some (fileOf pool8 18 #[] #[{ accessFlags := 1, nameIndex := 5, descriptorIndex := 39, attributes := #[] }, { accessFlags := 1, nameIndex := 45, descriptorIndex := 42, attributes := #[] }] 49 2 #[] #[{ accessFlags := 18, nameIndex := 21, descriptorIndex := 22, attributes := #[] }, { accessFlags := 18, nameIndex := 25, descriptorIndex := 26, attributes := #[] }])
  fields := #[{ name := "_path", type := (.object "java/lang/String"), accessFlags := 18, slot := 0, constantValue := 0 }, { name := "_bytes", type := .long, accessFlags := 18, slot := 1, constantValue := 0 }]
  methods := #[k8m0, k8m1]
  instanceTypes := #[(.object "java/lang/String"), .long]
  staticTypes := #[]
  resolved := Array.replicate 64 none
  statics := none }

def pool9 : Array CpInfo := pool [(2, .class_ 4), (1, u "java/lang/Object"), (0, u "<init>"), (0, u "()V"), (35, .class_ 44), (1, u "java/util/Objects"), (0, u "requireNonNull"), (48, u "(Ljava/lang/Object;Ljava/lang/String;)Ljava/lang/Object;")] 89

def k9m0 : Method := { name := "<init>", desc := "()V", sig := { parameters := [], returnType := none }, accessFlags := 2, code := none }
def k9c1 : Code := { maxStack := 3, maxLocals := 2, code := jdk_31_method_11_code, exceptionTable := #[], attributes := #[] }
def k9m1 : Method := { name := "requireNonNull", desc := "(Ljava/lang/Object;Ljava/lang/String;)Ljava/lang/Object;", sig := { parameters := [(.object "java/lang/Object"), (.object "java/lang/String")], returnType := some (.object "java/lang/Object") }, accessFlags := 9, code := some k9c1 }
/-- java/util/Objects -/
def k9 : Class := { plain "java/util/Objects" (some 0) with
  accessFlags := 49
  interfaces := #[]
  cf := some (fileOf pool9 42 #[] #[{ accessFlags := 2, nameIndex := 5, descriptorIndex := 6, attributes := #[] }, { accessFlags := 9, nameIndex := 45, descriptorIndex := 94, attributes := #[] }] 49 2 #[] #[])
  fields := #[]
  methods := #[k9m0, k9m1]
  instanceTypes := #[]
  staticTypes := #[]
  resolved := Array.replicate 184 none
  statics := none }

def pool10 : Array CpInfo := pool [(1, .class_ 2), (0, u "java/lang/String"), (1, .class_ 6), (1, u "java/lang/Object"), (0, u "<init>"), (0, u "()V"), (0, .methodref 1 10), (0, .nameAndType 11 12), (0, u "checkIndex"), (0, u "(II)V"), (1, .class_ 16), (1, u "java/lang/StringLatin1"), (21, .methodref 39 40), (0, .class_ 41), (0, .nameAndType 42 43), (0, u "java/lang/Math"), (0, u "min"), (0, u "(II)I"), (9, u "([BI)C"), (34, .methodref 14 89), (0, .nameAndType 90 91), (0, u "canEncode"), (0, u "(I)Z"), (20, .methodref 1 113), (0, .nameAndType 7 114), (0, u "([BB)V"), (6, u "$assertionsDisabled"), (0, u "Z"), (8, .class_ 133), (1, u "java/util/Arrays"), (17, .string 152), (0, u ""), (43, u "newString"), (0, u "([BII)Ljava/lang/String;"), (23, .class_ 223), (1, u "java/lang/StringLatin1$LinesSpliterator"), (8, .methodref 131 233), (0, .nameAndType 234 235), (0, u "copyOfRange"), (0, u "([BII)[B"), (16, u "charAt"), (8, u "([BII)I"), (47, u "lastIndexOf"), (80, .class_ 391), (0, u "java/lang/StringLatin1$CharsSpliterator")] 3

def k10m0 : Method := { name := "<init>", desc := "()V", sig := { parameters := [], returnType := none }, accessFlags := 0, code := none }
def k10c1 : Code := { maxStack := 2, maxLocals := 2, code := jdk_43_method_2_code, exceptionTable := #[], attributes := #[] }
def k10m1 : Method := { name := "charAt", desc := "([BI)C", sig := { parameters := [(.array .byte), .int], returnType := some .char }, accessFlags := 9, code := some k10c1 }
def k10c2 : Code := { maxStack := 2, maxLocals := 1, code := jdk_43_method_4_code, exceptionTable := #[], attributes := #[] }
def k10m2 : Method := { name := "canEncode", desc := "(I)Z", sig := { parameters := [.int], returnType := some .boolean }, accessFlags := 9, code := some k10c2 }
def k10c3 : Code := { maxStack := 3, maxLocals := 4, code := jdk_43_method_27_code, exceptionTable := #[], attributes := #[] }
def k10m3 : Method := { name := "lastIndexOf", desc := "([BII)I", sig := { parameters := [(.array .byte), .int, .int], returnType := some .int }, accessFlags := 9, code := some k10c3 }
def k10c4 : Code := { maxStack := 6, maxLocals := 3, code := jdk_43_method_47_code, exceptionTable := #[], attributes := #[] }
def k10m4 : Method := { name := "newString", desc := "([BII)Ljava/lang/String;", sig := { parameters := [(.array .byte), .int, .int], returnType := some (.object "java/lang/String") }, accessFlags := 9, code := some k10c4 }
/-- java/lang/StringLatin1 -/
def k10 : Class := { plain "java/lang/StringLatin1" (some 0) with
  accessFlags := 48
  interfaces := #[]
  cf := some (fileOf pool10 14 #[.nestMembers #[390, 221]] #[{ accessFlags := 0, nameIndex := 7, descriptorIndex := 8, attributes := #[] }, { accessFlags := 9, nameIndex := 252, descriptorIndex := 53, attributes := #[] }, { accessFlags := 9, nameIndex := 90, descriptorIndex := 91, attributes := #[] }, { accessFlags := 9, nameIndex := 309, descriptorIndex := 261, attributes := #[] }, { accessFlags := 9, nameIndex := 196, descriptorIndex := 197, attributes := #[] }] 48 4 #[] #[{ accessFlags := 4120, nameIndex := 121, descriptorIndex := 122, attributes := #[] }])
  fields := #[{ name := "$assertionsDisabled", type := .boolean, accessFlags := 4120, slot := 0, constantValue := 0 }]
  methods := #[k10m0, k10m1, k10m2, k10m3, k10m4]
  instanceTypes := #[]
  staticTypes := #[.boolean]
  resolved := Array.replicate 395 none
  statics := none }

def pool11 : Array CpInfo := pool [(1, .class_ 2), (0, u "java/lang/Math"), (1, .class_ 6), (1, u "java/lang/Object"), (0, u "<init>"), (0, u "()V"), (89, .class_ 100), (1, u "java/lang/Math$RandomNumberGeneratorHolder"), (71, u "negativeZeroFloatBits"), (0, u "J"), (2, u "negativeZeroDoubleBits"), (24, u "min"), (43, u "$assertionsDisabled"), (0, u "Z"), (88, u "(II)I"), (2, u "twoToTheDoubleScaleDown"), (0, u "D"), (4, u "twoToTheDoubleScaleUp"), (9, u "E"), (3, u "PI"), (2, u "TAU"), (2, u "DEGREES_TO_RADIANS"), (0, u "RADIANS_TO_DEGREES")] 94

def k11m0 : Method := { name := "<init>", desc := "()V", sig := { parameters := [], returnType := none }, accessFlags := 2, code := none }
def k11c1 : Code := { maxStack := 2, maxLocals := 2, code := jdk_29_method_69_code, exceptionTable := #[], attributes := #[] }
def k11m1 : Method := { name := "min", desc := "(II)I", sig := { parameters := [.int, .int], returnType := some .int }, accessFlags := 9, code := some k11c1 }
/-- java/lang/Math -/
def k11 : Class := { plain "java/lang/Math" (some 0) with
  accessFlags := 49
  interfaces := #[]
  cf := some (fileOf pool11 1 #[.nestMembers #[98]] #[{ accessFlags := 2, nameIndex := 7, descriptorIndex := 8, attributes := #[] }, { accessFlags := 9, nameIndex := 201, descriptorIndex := 335, attributes := #[] }] 49 4 #[] #[{ accessFlags := 25, nameIndex := 354, descriptorIndex := 339, attributes := #[] }, { accessFlags := 25, nameIndex := 358, descriptorIndex := 339, attributes := #[] }, { accessFlags := 25, nameIndex := 361, descriptorIndex := 339, attributes := #[] }, { accessFlags := 26, nameIndex := 364, descriptorIndex := 339, attributes := #[] }, { accessFlags := 26, nameIndex := 365, descriptorIndex := 339, attributes := #[] }, { accessFlags := 26, nameIndex := 172, descriptorIndex := 173, attributes := #[] }, { accessFlags := 26, nameIndex := 176, descriptorIndex := 173, attributes := #[] }, { accessFlags := 8, nameIndex := 344, descriptorIndex := 339, attributes := #[] }, { accessFlags := 8, nameIndex := 338, descriptorIndex := 339, attributes := #[] }, { accessFlags := 4120, nameIndex := 245, descriptorIndex := 246, attributes := #[] }])
  fields := #[{ name := "E", type := .double, accessFlags := 25, slot := 0, constantValue := 0 }, { name := "PI", type := .double, accessFlags := 25, slot := 1, constantValue := 0 }, { name := "TAU", type := .double, accessFlags := 25, slot := 2, constantValue := 0 }, { name := "DEGREES_TO_RADIANS", type := .double, accessFlags := 26, slot := 3, constantValue := 0 }, { name := "RADIANS_TO_DEGREES", type := .double, accessFlags := 26, slot := 4, constantValue := 0 }, { name := "negativeZeroFloatBits", type := .long, accessFlags := 26, slot := 5, constantValue := 0 }, { name := "negativeZeroDoubleBits", type := .long, accessFlags := 26, slot := 6, constantValue := 0 }, { name := "twoToTheDoubleScaleUp", type := .double, accessFlags := 8, slot := 7, constantValue := 0 }, { name := "twoToTheDoubleScaleDown", type := .double, accessFlags := 8, slot := 8, constantValue := 0 }, { name := "$assertionsDisabled", type := .boolean, accessFlags := 4120, slot := 9, constantValue := 0 }]
  methods := #[k11m0, k11m1]
  instanceTypes := #[]
  staticTypes := #[.double, .double, .double, .double, .double, .long, .long, .double, .double, .boolean]
  resolved := Array.replicate 460 none
  statics := none }

def pool12 : Array CpInfo := pool [(2, .class_ 4), (1, u "java/lang/Object"), (0, u "<init>"), (0, u "()V"), (17, .class_ 26), (1, u "jdk/internal/util/Preconditions"), (6, u "checkIndex"), (13, u "checkFromToIndex"), (7, .class_ 56), (0, u "jdk/internal/util/Preconditions$4"), (57, .class_ 115), (0, u "jdk/internal/util/Preconditions$1"), (7, u "SIOOBE_FORMATTER"), (0, u "Ljava/util/function/BiFunction;"), (0, .class_ 126), (0, u "jdk/internal/util/Preconditions$2"), (3, u "AIOOBE_FORMATTER"), (0, .class_ 132), (0, u "jdk/internal/util/Preconditions$3"), (3, u "IOOBE_FORMATTER"), (41, u "(IILjava/util/function/BiFunction;)I"), (4, u "(IIILjava/util/function/BiFunction;)I")] 10

def k12m0 : Method := { name := "<init>", desc := "()V", sig := { parameters := [], returnType := none }, accessFlags := 1, code := none }
def k12c1 : Code := { maxStack := 3, maxLocals := 3, code := jdk_41_method_11_code, exceptionTable := #[], attributes := #[] }
def k12m1 : Method := { name := "checkIndex", desc := "(IILjava/util/function/BiFunction;)I", sig := { parameters := [.int, .int, (.object "java/util/function/BiFunction")], returnType := some .int }, accessFlags := 9, code := some k12c1 }
def k12c2 : Code := { maxStack := 4, maxLocals := 4, code := jdk_41_method_12_code, exceptionTable := #[], attributes := #[] }
def k12m2 : Method := { name := "checkFromToIndex", desc := "(IIILjava/util/function/BiFunction;)I", sig := { parameters := [.int, .int, .int, (.object "java/util/function/BiFunction")], returnType := some .int }, accessFlags := 9, code := some k12c2 }
/-- jdk/internal/util/Preconditions -/
def k12 : Class := { plain "jdk/internal/util/Preconditions" (some 0) with
  accessFlags := 33
  interfaces := #[]
  cf := some (fileOf pool12 24 #[.nestMembers #[55, 131, 125, 114]] #[{ accessFlags := 1, nameIndex := 5, descriptorIndex := 6, attributes := #[] }, { accessFlags := 9, nameIndex := 33, descriptorIndex := 178, attributes := #[] }, { accessFlags := 9, nameIndex := 47, descriptorIndex := 183, attributes := #[] }] 33 2 #[] #[{ accessFlags := 25, nameIndex := 123, descriptorIndex := 124, attributes := #[] }, { accessFlags := 25, nameIndex := 130, descriptorIndex := 124, attributes := #[] }, { accessFlags := 25, nameIndex := 136, descriptorIndex := 124, attributes := #[] }])
  fields := #[{ name := "SIOOBE_FORMATTER", type := (.object "java/util/function/BiFunction"), accessFlags := 25, slot := 0, constantValue := 0 }, { name := "AIOOBE_FORMATTER", type := (.object "java/util/function/BiFunction"), accessFlags := 25, slot := 1, constantValue := 0 }, { name := "IOOBE_FORMATTER", type := (.object "java/util/function/BiFunction"), accessFlags := 25, slot := 2, constantValue := 0 }]
  methods := #[k12m0, k12m1, k12m2]
  instanceTypes := #[]
  staticTypes := #[(.object "java/util/function/BiFunction"), (.object "java/util/function/BiFunction"), (.object "java/util/function/BiFunction")]
  resolved := Array.replicate 194 none
  statics := some 1 }

def pool13 : Array CpInfo := pool [(6, .class_ 8), (1, u "java/lang/Object"), (0, u "<init>"), (0, u "()V"), (1, .class_ 14), (1, u "java/lang/StringUTF16"), (31, u "$assertionsDisabled"), (0, u "Z"), (13, u "HI_BYTE_SHIFT"), (0, u "I"), (2, u "LO_BYTE_SHIFT"), (49, .methodref 12 116), (0, .nameAndType 117 118), (0, u "compress"), (0, u "([CI[BII)I"), (3, u "([CII)[B"), (138, u "coderFromArrayLen"), (0, u "([BI)B"), (106, .class_ 371), (1, u "java/lang/StringUTF16$LinesSpliterator"), (58, u "MAX_LENGTH"), (196, .class_ 628), (0, u "java/lang/StringUTF16$CodePointsSpliterator"), (0, .class_ 630), (0, u "java/lang/StringUTF16$CharsSpliterator")] 4

def k13m0 : Method := { name := "<init>", desc := "()V", sig := { parameters := [], returnType := none }, accessFlags := 0, code := none }
def k13c1 : Code := { maxStack := 2, maxLocals := 2, code := jdk_52_method_15_code, exceptionTable := #[], attributes := #[] }
def k13m1 : Method := { name := "coderFromArrayLen", desc := "([BI)B", sig := { parameters := [(.array .byte), .int], returnType := some .byte }, accessFlags := 8, code := some k13c1 }
def k13c2 : Code := { maxStack := 5, maxLocals := 6, code := jdk_52_method_16_code, exceptionTable := #[], attributes := #[] }
def k13m2 : Method := { name := "compress", desc := "([CII)[B", sig := { parameters := [(.array .char), .int, .int], returnType := some (.array .byte) }, accessFlags := 9, code := some k13c2 }
def k13c3 : Code := { maxStack := 3, maxLocals := 7, code := jdk_52_method_21_code, exceptionTable := #[], attributes := #[] }
def k13m3 : Method := { name := "compress", desc := "([CI[BII)I", sig := { parameters := [(.array .char), .int, (.array .byte), .int, .int], returnType := some .int }, accessFlags := 9, code := some k13c3 }
/-- java/lang/StringUTF16 -/
def k13 : Class := { plain "java/lang/StringUTF16" (some 0) with
  accessFlags := 48
  interfaces := #[]
  cf := some (fileOf pool13 12 #[.nestMembers #[627, 629, 369]] #[{ accessFlags := 0, nameIndex := 9, descriptorIndex := 10, attributes := #[] }, { accessFlags := 8, nameIndex := 261, descriptorIndex := 262, attributes := #[] }, { accessFlags := 9, nameIndex := 117, descriptorIndex := 122, attributes := #[] }, { accessFlags := 9, nameIndex := 117, descriptorIndex := 118, attributes := #[] }] 48 6 #[] #[{ accessFlags := 26, nameIndex := 61, descriptorIndex := 62, attributes := #[] }, { accessFlags := 26, nameIndex := 65, descriptorIndex := 62, attributes := #[] }, { accessFlags := 24, nameIndex := 430, descriptorIndex := 62, attributes := #[] }, { accessFlags := 4120, nameIndex := 46, descriptorIndex := 47, attributes := #[] }])
  fields := #[{ name := "HI_BYTE_SHIFT", type := .int, accessFlags := 26, slot := 0, constantValue := 0 }, { name := "LO_BYTE_SHIFT", type := .int, accessFlags := 26, slot := 1, constantValue := 0 }, { name := "MAX_LENGTH", type := .int, accessFlags := 24, slot := 2, constantValue := 0 }, { name := "$assertionsDisabled", type := .boolean, accessFlags := 4120, slot := 3, constantValue := 0 }]
  methods := #[k13m0, k13m1, k13m2, k13m3]
  instanceTypes := #[]
  staticTypes := #[.int, .int, .int, .boolean]
  resolved := Array.replicate 635 none
  statics := none }

def pool14 : Array CpInfo := pool [(2, .class_ 4), (1, u "java/lang/Object"), (0, u "<init>"), (0, u "()V"), (7, .class_ 16), (1, u "java/util/Arrays"), (57, .class_ 76), (1, u "java/util/Arrays$NaturalOrder"), (36, .class_ 115), (1, u "java/util/Arrays$LegacyMergeSort"), (1, u "Z"), (21, u "copyOfRange"), (10, .methodref 151 152), (0, .class_ 153), (0, .nameAndType 154 155), (0, u "java/lang/System"), (0, u "arraycopy"), (0, u "(Ljava/lang/Object;ILjava/lang/Object;II)V"), (148, .methodref 305 306), (0, .class_ 307), (0, .nameAndType 308 309), (0, u "java/lang/Math"), (0, u "min"), (0, u "(II)I"), (29, .methodref 14 340), (0, .nameAndType 341 342), (0, u "copyOfRangeByte"), (0, u "([BII)[B"), (0, .methodref 14 344), (0, .nameAndType 345 346), (0, u "checkLength"), (0, u "(II)V"), (28, .class_ 376), (0, u "java/util/Arrays$ArrayList"), (68, u "$assertionsDisabled"), (269, u "MIN_ARRAY_SORT_GRAN"), (0, u "I"), (2, u "INSERTIONSORT_THRESHOLD"), (255, .class_ 976), (0, u "java/util/Arrays$ArrayItr")] 52

def k14m0 : Method := { name := "<init>", desc := "()V", sig := { parameters := [], returnType := none }, accessFlags := 2, code := none }
def k14c1 : Code := { maxStack := 4, maxLocals := 2, code := jdk_65_method_131_code, exceptionTable := #[], attributes := #[] }
def k14m1 : Method := { name := "checkLength", desc := "(II)V", sig := { parameters := [.int, .int], returnType := none }, accessFlags := 10, code := some k14c1 }
def k14c2 : Code := { maxStack := 3, maxLocals := 3, code := jdk_65_method_132_code, exceptionTable := #[], attributes := #[] }
def k14m2 : Method := { name := "copyOfRange", desc := "([BII)[B", sig := { parameters := [(.array .byte), .int, .int], returnType := some (.array .byte) }, accessFlags := 9, code := some k14c2 }
def k14c3 : Code := { maxStack := 6, maxLocals := 5, code := jdk_65_method_133_code, exceptionTable := #[], attributes := #[] }
def k14m3 : Method := { name := "copyOfRangeByte", desc := "([BII)[B", sig := { parameters := [(.array .byte), .int, .int], returnType := some (.array .byte) }, accessFlags := 10, code := some k14c3 }
/-- java/util/Arrays -/
def k14 : Class := { plain "java/util/Arrays" (some 0) with
  accessFlags := 49
  interfaces := #[]
  cf := some (fileOf pool14 14 #[.nestMembers #[975, 375, 113, 74]] #[{ accessFlags := 2, nameIndex := 5, descriptorIndex := 6, attributes := #[] }, { accessFlags := 10, nameIndex := 345, descriptorIndex := 346, attributes := #[] }, { accessFlags := 9, nameIndex := 139, descriptorIndex := 342, attributes := #[] }, { accessFlags := 10, nameIndex := 341, descriptorIndex := 342, attributes := #[] }] 49 2 #[] #[{ accessFlags := 26, nameIndex := 715, descriptorIndex := 716, attributes := #[] }, { accessFlags := 26, nameIndex := 719, descriptorIndex := 716, attributes := #[] }, { accessFlags := 4120, nameIndex := 445, descriptorIndex := 117, attributes := #[] }])
  fields := #[{ name := "MIN_ARRAY_SORT_GRAN", type := .int, accessFlags := 26, slot := 0, constantValue := 0 }, { name := "INSERTIONSORT_THRESHOLD", type := .int, accessFlags := 26, slot := 1, constantValue := 0 }, { name := "$assertionsDisabled", type := .boolean, accessFlags := 4120, slot := 2, constantValue := 0 }]
  methods := #[k14m0, k14m1, k14m2, k14m3]
  instanceTypes := #[]
  staticTypes := #[.int, .int, .boolean]
  resolved := Array.replicate 1029 none
  statics := none }

def pool15 : Array CpInfo := pool [(2, .class_ 4), (1, u "java/lang/Object"), (0, u "<init>"), (0, u "()V"), (1, .class_ 10), (1, u "java/lang/System"), (0, u "allowSecurityManager"), (0, u "I"), (16, u "cons"), (0, u "Ljava/io/Console;"), (77, .class_ 110), (1, u "java/lang/System$CallersHolder"), (43, u "initialErrStream"), (0, u "Ljava/io/PrintStream;"), (19, u "security"), (0, u "Ljava/lang/SecurityManager;"), (31, .class_ 209), (0, u "java/lang/System$1"), (7, u "props"), (0, u "Ljava/util/Properties;"), (2, u "lineSeparator"), (0, u "Ljava/lang/String;"), (96, .class_ 321), (1, u "java/lang/System$LoggerFinder"), (5, .class_ 328), (0, u "java/lang/System$Logger"), (67, u "err"), (2, u "out"), (91, u "notSupportedJnuEncoding"), (15, u "in"), (17, u "initialIn"), (0, u "Ljava/io/InputStream;"), (35, u "bootLayer"), (0, u "Ljava/lang/ModuleLayer;"), (99, .class_ 664), (0, u "java/lang/System$2"), (9, u "NEVER"), (2, u "MAYBE"), (49, u "arraycopy"), (0, u "(Ljava/lang/Object;ILjava/lang/Object;II)V"), (72, .class_ 802), (0, u "java/lang/System$Logger$Level")] 31

def k15m0 : Method := { name := "<init>", desc := "()V", sig := { parameters := [], returnType := none }, accessFlags := 2, code := none }
def k15m1 : Method := { name := "arraycopy", desc := "(Ljava/lang/Object;ILjava/lang/Object;II)V", sig := { parameters := [(.object "java/lang/Object"), .int, (.object "java/lang/Object"), .int, .int], returnType := none }, accessFlags := 265, code := none }
/-- java/lang/System -/
def k15 : Class := { plain "java/lang/System" (some 0) with
  accessFlags := 49
  interfaces := #[]
  cf := some (fileOf pool15 8 #[.nestMembers #[319, 327, 801, 108, 663, 208]] #[{ accessFlags := 2, nameIndex := 5, descriptorIndex := 6, attributes := #[] }, { accessFlags := 265, nameIndex := 727, descriptorIndex := 728, attributes := #[] }] 49 2 #[] #[{ accessFlags := 25, nameIndex := 507, descriptorIndex := 526, attributes := #[] }, { accessFlags := 25, nameIndex := 399, descriptorIndex := 155, attributes := #[] }, { accessFlags := 25, nameIndex := 396, descriptorIndex := 155, attributes := #[] }, { accessFlags := 10, nameIndex := 525, descriptorIndex := 526, attributes := #[] }, { accessFlags := 26, nameIndex := 674, descriptorIndex := 12, attributes := #[] }, { accessFlags := 26, nameIndex := 677, descriptorIndex := 12, attributes := #[] }, { accessFlags := 10, nameIndex := 11, descriptorIndex := 12, attributes := #[] }, { accessFlags := 74, nameIndex := 175, descriptorIndex := 176, attributes := #[] }, { accessFlags := 10, nameIndex := 491, descriptorIndex := 222, attributes := #[] }, { accessFlags := 74, nameIndex := 29, descriptorIndex := 30, attributes := #[] }, { accessFlags := 74, nameIndex := 154, descriptorIndex := 155, attributes := #[] }, { accessFlags := 10, nameIndex := 217, descriptorIndex := 218, attributes := #[] }, { accessFlags := 10, nameIndex := 221, descriptorIndex := 222, attributes := #[] }, { accessFlags := 8, nameIndex := 562, descriptorIndex := 563, attributes := #[] }])
  fields := #[{ name := "in", type := (.object "java/io/InputStream"), accessFlags := 25, slot := 0, constantValue := 0 }, { name := "out", type := (.object "java/io/PrintStream"), accessFlags := 25, slot := 1, constantValue := 0 }, { name := "err", type := (.object "java/io/PrintStream"), accessFlags := 25, slot := 2, constantValue := 0 }, { name := "initialIn", type := (.object "java/io/InputStream"), accessFlags := 10, slot := 3, constantValue := 0 }, { name := "NEVER", type := .int, accessFlags := 26, slot := 4, constantValue := 0 }, { name := "MAYBE", type := .int, accessFlags := 26, slot := 5, constantValue := 0 }, { name := "allowSecurityManager", type := .int, accessFlags := 10, slot := 6, constantValue := 0 }, { name := "security", type := (.object "java/lang/SecurityManager"), accessFlags := 74, slot := 7, constantValue := 0 }, { name := "notSupportedJnuEncoding", type := (.object "java/lang/String"), accessFlags := 10, slot := 8, constantValue := 0 }, { name := "cons", type := (.object "java/io/Console"), accessFlags := 74, slot := 9, constantValue := 0 }, { name := "initialErrStream", type := (.object "java/io/PrintStream"), accessFlags := 74, slot := 10, constantValue := 0 }, { name := "props", type := (.object "java/util/Properties"), accessFlags := 10, slot := 11, constantValue := 0 }, { name := "lineSeparator", type := (.object "java/lang/String"), accessFlags := 10, slot := 12, constantValue := 0 }, { name := "bootLayer", type := (.object "java/lang/ModuleLayer"), accessFlags := 8, slot := 13, constantValue := 0 }]
  methods := #[k15m0, k15m1]
  instanceTypes := #[]
  staticTypes := #[(.object "java/io/InputStream"), (.object "java/io/PrintStream"), (.object "java/io/PrintStream"), (.object "java/io/InputStream"), .int, .int, .int, (.object "java/lang/SecurityManager"), (.object "java/lang/String"), (.object "java/io/Console"), (.object "java/io/PrintStream"), (.object "java/util/Properties"), (.object "java/lang/String"), (.object "java/lang/ModuleLayer")]
  resolved := Array.replicate 834 none
  statics := none }

def pool16 : Array CpInfo := pool [(9, u "<init>"), (6, .class_ 18), (1, u "java/lang/Object"), (0, u "()V"), (1, .class_ 23), (1, u "jdk/internal/util/ArraysSupport"), (0, u "LOG2_ARRAY_LONG_INDEX_SCALE"), (0, u "I"), (2, u "U"), (0, u "Ljdk/internal/misc/Unsafe;"), (8, u "BIG_ENDIAN"), (0, u "Z"), (8, u "LOG2_BYTE_BIT_SIZE"), (4, u "LOG2_ARRAY_INT_INDEX_SCALE"), (54, u "JLA"), (0, u "Ljdk/internal/access/JavaLangAccess;"), (11, u "LOG2_ARRAY_BOOLEAN_INDEX_SCALE"), (9, u "LOG2_ARRAY_BYTE_INDEX_SCALE"), (5, u "LOG2_ARRAY_CHAR_INDEX_SCALE"), (5, u "LOG2_ARRAY_SHORT_INDEX_SCALE"), (18, u "LOG2_ARRAY_FLOAT_INDEX_SCALE"), (24, u "LOG2_ARRAY_DOUBLE_INDEX_SCALE"), (89, u "T_BOOLEAN"), (2, u "T_CHAR"), (1, u "T_FLOAT"), (1, u "T_DOUBLE"), (1, u "T_BYTE"), (1, u "T_SHORT"), (1, u "T_INT"), (1, u "T_LONG"), (1, u "SOFT_MAX_ARRAY_LENGTH")] 83

def k16m0 : Method := { name := "<init>", desc := "()V", sig := { parameters := [], returnType := none }, accessFlags := 2, code := none }
/-- jdk/internal/util/ArraysSupport -/
def k16 : Class := { plain "jdk/internal/util/ArraysSupport" (some 0) with
  accessFlags := 33
  interfaces := #[]
  cf := some (fileOf pool16 21 #[] #[{ accessFlags := 2, nameIndex := 9, descriptorIndex := 19, attributes := #[] }] 33 16 #[] #[{ accessFlags := 24, nameIndex := 28, descriptorIndex := 29, attributes := #[] }, { accessFlags := 26, nameIndex := 38, descriptorIndex := 39, attributes := #[] }, { accessFlags := 25, nameIndex := 121, descriptorIndex := 25, attributes := #[] }, { accessFlags := 25, nameIndex := 131, descriptorIndex := 25, attributes := #[] }, { accessFlags := 25, nameIndex := 137, descriptorIndex := 25, attributes := #[] }, { accessFlags := 25, nameIndex := 143, descriptorIndex := 25, attributes := #[] }, { accessFlags := 25, nameIndex := 53, descriptorIndex := 25, attributes := #[] }, { accessFlags := 25, nameIndex := 24, descriptorIndex := 25, attributes := #[] }, { accessFlags := 25, nameIndex := 162, descriptorIndex := 25, attributes := #[] }, { accessFlags := 25, nameIndex := 187, descriptorIndex := 25, attributes := #[] }, { accessFlags := 26, nameIndex := 48, descriptorIndex := 25, attributes := #[] }, { accessFlags := 25, nameIndex := 277, descriptorIndex := 25, attributes := #[] }, { accessFlags := 25, nameIndex := 280, descriptorIndex := 25, attributes := #[] }, { accessFlags := 25, nameIndex := 282, descriptorIndex := 25, attributes := #[] }, { accessFlags := 25, nameIndex := 284, descriptorIndex := 25, attributes := #[] }, { accessFlags := 25, nameIndex := 286, descriptorIndex := 25, attributes := #[] }, { accessFlags := 25, nameIndex := 288, descriptorIndex := 25, attributes := #[] }, { accessFlags := 25, nameIndex := 290, descriptorIndex := 25, attributes := #[] }, { accessFlags := 25, nameIndex := 292, descriptorIndex := 25, attributes := #[] }, { accessFlags := 26, nameIndex := 108, descriptorIndex := 109, attributes := #[] }, { accessFlags := 25, nameIndex := 294, descriptorIndex := 25, attributes := #[] }])
  fields := #[{ name := "U", type := (.object "jdk/internal/misc/Unsafe"), accessFlags := 24, slot := 0, constantValue := 0 }, { name := "BIG_ENDIAN", type := .boolean, accessFlags := 26, slot := 1, constantValue := 0 }, { name := "LOG2_ARRAY_BOOLEAN_INDEX_SCALE", type := .int, accessFlags := 25, slot := 2, constantValue := 0 }, { name := "LOG2_ARRAY_BYTE_INDEX_SCALE", type := .int, accessFlags := 25, slot := 3, constantValue := 0 }, { name := "LOG2_ARRAY_CHAR_INDEX_SCALE", type := .int, accessFlags := 25, slot := 4, constantValue := 0 }, { name := "LOG2_ARRAY_SHORT_INDEX_SCALE", type := .int, accessFlags := 25, slot := 5, constantValue := 0 }, { name := "LOG2_ARRAY_INT_INDEX_SCALE", type := .int, accessFlags := 25, slot := 6, constantValue := 0 }, { name := "LOG2_ARRAY_LONG_INDEX_SCALE", type := .int, accessFlags := 25, slot := 7, constantValue := 0 }, { name := "LOG2_ARRAY_FLOAT_INDEX_SCALE", type := .int, accessFlags := 25, slot := 8, constantValue := 0 }, { name := "LOG2_ARRAY_DOUBLE_INDEX_SCALE", type := .int, accessFlags := 25, slot := 9, constantValue := 0 }, { name := "LOG2_BYTE_BIT_SIZE", type := .int, accessFlags := 26, slot := 10, constantValue := 0 }, { name := "T_BOOLEAN", type := .int, accessFlags := 25, slot := 11, constantValue := 0 }, { name := "T_CHAR", type := .int, accessFlags := 25, slot := 12, constantValue := 0 }, { name := "T_FLOAT", type := .int, accessFlags := 25, slot := 13, constantValue := 0 }, { name := "T_DOUBLE", type := .int, accessFlags := 25, slot := 14, constantValue := 0 }, { name := "T_BYTE", type := .int, accessFlags := 25, slot := 15, constantValue := 0 }, { name := "T_SHORT", type := .int, accessFlags := 25, slot := 16, constantValue := 0 }, { name := "T_INT", type := .int, accessFlags := 25, slot := 17, constantValue := 0 }, { name := "T_LONG", type := .int, accessFlags := 25, slot := 18, constantValue := 0 }, { name := "JLA", type := (.object "jdk/internal/access/JavaLangAccess"), accessFlags := 26, slot := 19, constantValue := 0 }, { name := "SOFT_MAX_ARRAY_LENGTH", type := .int, accessFlags := 25, slot := 20, constantValue := 0 }]
  methods := #[k16m0]
  instanceTypes := #[]
  staticTypes := #[(.object "jdk/internal/misc/Unsafe"), .boolean, .int, .int, .int, .int, .int, .int, .int, .int, .int, .int, .int, .int, .int, .int, .int, .int, .int, (.object "jdk/internal/access/JavaLangAccess"), .int]
  resolved := Array.replicate 378 none
  statics := none }

def pool17 : Array CpInfo := pool [(1, u "java/lang/Cloneable"), (0, .class_ 1), (0, u "java/lang/Object"), (0, .class_ 3)] 3

/-- java/lang/Cloneable -/
def k17 : Class := { plain "java/lang/Cloneable" (some 0) with
  accessFlags := 1537
  interfaces := #[]
  cf := some (fileOf pool17 2 #[] #[] 1537 4 #[] #[])
  fields := #[]
  methods := #[]
  instanceTypes := #[]
  staticTypes := #[]
  resolved := Array.replicate 8 none
  statics := none }

/-- the primitive byte -/
def k18 : Class := { plain "byte" none with kind := .primitive 'B', accessFlags := 0x411 }
/-- [B -/
def k19 : Class := { plain "[B" (some 0) with kind := .array 18 .byte, interfaces := #[17, 2], accessFlags := 1041 }

/-- the primitive char -/
def k20 : Class := { plain "char" none with kind := .primitive 'C', accessFlags := 0x411 }
/-- [C -/
def k21 : Class := { plain "[C" (some 0) with kind := .array 20 .char, interfaces := #[17, 2], accessFlags := 1041 }

/-- the primitive int -/
def k22 : Class := { plain "int" none with kind := .primitive 'I', accessFlags := 0x411 }
/-- [I -/
def k23 : Class := { plain "[I" (some 0) with kind := .array 22 .int, interfaces := #[17, 2], accessFlags := 1041 }

def heap : Heap := #[{ cls := 7, slots := #[.long 0, .int 1, .null, .int 0, .null, .int 0, .int 0], vm := .statics 7 },
  { cls := 12, slots := #[.null, .null, .null], vm := .statics 12 }]
def classes : Array Class := #[k0, k1, k2, k3, k4, k5, k6, k7, k8, k9, k10, k11, k12, k13, k14, k15, k16, k17, k18, k19, k20, k21, k22, k23]
def interned : List (Array UInt16 × Addr) := []
def slotsUsed : Nat := 10
def theMethod : MethodId := ⟨1, 3⟩
def args0 : Array Value := #[.int 5, .int 5, .int 5, .int 5, .int 5, .long 5]
def aboutOver (below : List Frame) : State where
  vm := { classes := classes, interned := interned.toArray }
  heap := heap
  slotsUsed := slotsUsed
  threads := #[{ frames := .invoking theMethod args0 :: below }]
def below0 : List Frame := [.native { method := ⟨0, 0⟩, args := #[] }]
def about1 : State := aboutOver below0
def p0 : Program := .bare "" "" ""
def e0 : Env := launch0.env 0 0 0
theorem w_frames : about1.frames = Frame.invoking theMethod args0 :: below0 := rfl
set_option maxRecDepth 65536 in
theorem w_args : argsFit about1.vm theMethod args0 = true := by decide +kernel
set_option maxRecDepth 65536 in
theorem w_heap : heapFits about1 = true := by decide +kernel
set_option maxRecDepth 65536 in
theorem w_runnable : about1.curStatus? = some .runnable := by decide +kernel
set_option maxRecDepth 65536 in
theorem w_alone : about1.alone = true := by decide +kernel
set_option maxRecDepth 65536 in
theorem w_named : about1.methodNamed? x = some theMethod := by decide +kernel
set_option maxRecDepth 65536 in
theorem w_hears : about1.hears theMethod below0 = true := by decide +kernel
set_option maxRecDepth 65536 in
theorem w_ripe : about1.ripe theMethod args0 below0 = true := by decide +kernel
theorem w_running : about1.status = .running := rfl
set_option maxRecDepth 65536 in
theorem w_room : about1.hasRoom e0.platform room_1 = true :=
  launch0.hasRoom_least _ room_1 (by decide +kernel) (by decide +kernel) (by decide +kernel) (by decide +kernel) (by decide +kernel) (by decide +kernel)
theorem allAtoms_all (ts : List Jvm.Cond) (a : Array Jvm.Value) (st : Jvm.State) : (allAtoms ts).before a st = ts.all (fun c => c.before a st) := by
  induction ts with
  | nil => rfl
  | cons c t ih =>
    show (Jvm.Cond.and c (allAtoms t)).before a st = _
    rw [Jvm.Cond.before_and, ih, List.all_cons]
def words1 : List Jvm.Cond := Jvm.Cond.code x code maxLocals ret :: tables_1
/-- a 'code' word, met by the world's own term for the bytes: nothing is compared byte by byte -/
theorem code_word {y : MethodName} {bytes : ByteArray} {mx : Nat} {rt : Option FieldType} {a : Array Value} {s : State} {m : MethodId} {meth : Method} {c : Code} (h1 : s.methodNamed? y = some m) (h2 : s.vm.method? m = some meth) (h3 : meth.code = some c) (h4 : c.code = bytes)
    (h5 : (c.maxLocals == mx && c.exceptionTable.isEmpty && decide (c.maxStack ≤ mostOperands) && decide (meth.sig.returnType = rt) && !meth.locks && decide (parseMethodDescriptor y.desc = some meth.sig)) = true) : (Jvm.Cond.code y bytes mx rt).before a s = true := by
  simp only [Bool.and_eq_true, beq_iff_eq, Bool.not_eq_true', decide_eq_true_eq] at h5
  obtain ⟨⟨⟨⟨⟨g1, g2⟩, g3⟩, g4⟩, g5⟩, g6⟩ := h5
  simp [Cond.before, Cond.holds, Cond.value, h1, h2, h3, h4, g1, g2, g3, g4, g5, g6]
def isCode : Jvm.Cond → Bool
  | .code _ _ _ _ => true
  | _ => false
theorem all_split {L : List Jvm.Cond} {P : Jvm.Cond → Bool} (h1 : L.all (fun c => isCode c || P c) = true) (h2 : ∀ c ∈ L.filter isCode, P c = true) : L.all P = true := by
  refine List.all_eq_true.mpr fun c hc => ?_
  have h := List.all_eq_true.mp h1 c hc
  rcases Bool.eq_false_or_eq_true (isCode c) with hi | hi
  · exact h2 c (List.mem_filter.mpr ⟨hc, hi⟩)
  · simpa [hi] using h
set_option maxRecDepth 65536 in
theorem w_c0 : (Jvm.Cond.code x code maxLocals ret).before args0 about1 = true := code_word (m := ⟨1, 3⟩) (meth := k1m3) (c := k1c3) (by decide +kernel) rfl rfl rfl (by decide +kernel)
set_option maxRecDepth 65536 in
theorem w_c1 : (Jvm.Cond.code ({ cls := "com/example/ullr/ullr/files/ListedFileNamePinLaw", name := "pick", desc := "(I)C" } : Jvm.MethodName) method_2_code (1 : Nat) (Option.some Jvm.ClassFile.FieldType.char)).before args0 about1 = true := code_word (m := ⟨1, 1⟩) (meth := k1m1) (c := k1c1) (by decide +kernel) rfl rfl rfl (by decide +kernel)
set_option maxRecDepth 65536 in
theorem w_c2 : (Jvm.Cond.code ({ cls := "java/lang/String", name := "<init>", desc := "([C)V" } : Jvm.MethodName) jdk_42_method_3_code (2 : Nat) (Option.none : Option Jvm.ClassFile.FieldType)).before args0 about1 = true := code_word (m := ⟨7, 1⟩) (meth := k7m1) (c := k7c1) (by decide +kernel) rfl rfl rfl (by decide +kernel)
set_option maxRecDepth 65536 in
theorem w_c3 : (Jvm.Cond.code ({ cls := "java/lang/String", name := "<init>", desc := "([CIILjava/lang/Void;)V" } : Jvm.MethodName) jdk_42_method_149_code (6 : Nat) (Option.none : Option Jvm.ClassFile.FieldType)).before args0 about1 = true := code_word (m := ⟨7, 8⟩) (meth := k7m8) (c := k7c8) (by decide +kernel) rfl rfl rfl (by decide +kernel)
set_option maxRecDepth 65536 in
theorem w_c4 : (Jvm.Cond.code ({ cls := "java/lang/Object", name := "<init>", desc := "()V" } : Jvm.MethodName) object_method_1_code (1 : Nat) (Option.none : Option Jvm.ClassFile.FieldType)).before args0 about1 = true := code_word (m := ⟨0, 0⟩) (meth := k0m0) (c := k0c0) (by decide +kernel) rfl rfl rfl (by decide +kernel)
set_option maxRecDepth 65536 in
theorem w_c5 : (Jvm.Cond.code ({ cls := "com/example/ullr/ullr/files/ListedFile", name := "<init>", desc := "(Ljava/lang/String;J)V" } : Jvm.MethodName) prog_26_method_1_code (4 : Nat) (Option.none : Option Jvm.ClassFile.FieldType)).before args0 about1 = true := code_word (m := ⟨8, 0⟩) (meth := k8m0) (c := k8c0) (by decide +kernel) rfl rfl rfl (by decide +kernel)
set_option maxRecDepth 65536 in
theorem w_c6 : (Jvm.Cond.code ({ cls := "java/util/Objects", name := "requireNonNull", desc := "(Ljava/lang/Object;Ljava/lang/String;)Ljava/lang/Object;" } : Jvm.MethodName) jdk_31_method_11_code (2 : Nat) (Option.some (Jvm.ClassFile.FieldType.object "java/lang/Object"))).before args0 about1 = true := code_word (m := ⟨9, 1⟩) (meth := k9m1) (c := k9c1) (by decide +kernel) rfl rfl rfl (by decide +kernel)
set_option maxRecDepth 65536 in
theorem w_c7 : (Jvm.Cond.code ({ cls := "com/example/ullr/ullr/files/ListedFile", name := "name", desc := "()Ljava/lang/String;" } : Jvm.MethodName) prog_26_method_4_code (1 : Nat) (Option.some (Jvm.ClassFile.FieldType.object "java/lang/String"))).before args0 about1 = true := code_word (m := ⟨8, 1⟩) (meth := k8m1) (c := k8c1) (by decide +kernel) rfl rfl rfl (by decide +kernel)
set_option maxRecDepth 65536 in
theorem w_c8 : (Jvm.Cond.code ({ cls := "java/lang/String", name := "lastIndexOf", desc := "(I)I" } : Jvm.MethodName) jdk_42_method_82_code (2 : Nat) (Option.some Jvm.ClassFile.FieldType.int)).before args0 about1 = true := code_word (m := ⟨7, 4⟩) (meth := k7m4) (c := k7c4) (by decide +kernel) rfl rfl rfl (by decide +kernel)
set_option maxRecDepth 65536 in
theorem w_c9 : (Jvm.Cond.code ({ cls := "java/lang/String", name := "length", desc := "()I" } : Jvm.MethodName) jdk_42_method_54_code (1 : Nat) (Option.some Jvm.ClassFile.FieldType.int)).before args0 about1 = true := code_word (m := ⟨7, 2⟩) (meth := k7m2) (c := k7c2) (by decide +kernel) rfl rfl rfl (by decide +kernel)
set_option maxRecDepth 65536 in
theorem w_c10 : (Jvm.Cond.code ({ cls := "java/lang/String", name := "coder", desc := "()B" } : Jvm.MethodName) jdk_42_method_152_code (1 : Nat) (Option.some Jvm.ClassFile.FieldType.byte)).before args0 about1 = true := code_word (m := ⟨7, 10⟩) (meth := k7m10) (c := k7c10) (by decide +kernel) rfl rfl rfl (by decide +kernel)
set_option maxRecDepth 65536 in
theorem w_c11 : (Jvm.Cond.code ({ cls := "java/lang/String", name := "lastIndexOf", desc := "(II)I" } : Jvm.MethodName) jdk_42_method_83_code (3 : Nat) (Option.some Jvm.ClassFile.FieldType.int)).before args0 about1 = true := code_word (m := ⟨7, 5⟩) (meth := k7m5) (c := k7c5) (by decide +kernel) rfl rfl rfl (by decide +kernel)
set_option maxRecDepth 65536 in
theorem w_c12 : (Jvm.Cond.code ({ cls := "java/lang/String", name := "isLatin1", desc := "()Z" } : Jvm.MethodName) jdk_42_method_154_code (1 : Nat) (Option.some Jvm.ClassFile.FieldType.boolean)).before args0 about1 = true := code_word (m := ⟨7, 11⟩) (meth := k7m11) (c := k7c11) (by decide +kernel) rfl rfl rfl (by decide +kernel)
set_option maxRecDepth 65536 in
theorem w_c13 : (Jvm.Cond.code ({ cls := "java/lang/StringLatin1", name := "lastIndexOf", desc := "([BII)I" } : Jvm.MethodName) jdk_43_method_27_code (4 : Nat) (Option.some Jvm.ClassFile.FieldType.int)).before args0 about1 = true := code_word (m := ⟨10, 3⟩) (meth := k10m3) (c := k10c3) (by decide +kernel) rfl rfl rfl (by decide +kernel)
set_option maxRecDepth 65536 in
theorem w_c14 : (Jvm.Cond.code ({ cls := "java/lang/StringLatin1", name := "canEncode", desc := "(I)Z" } : Jvm.MethodName) jdk_43_method_4_code (1 : Nat) (Option.some Jvm.ClassFile.FieldType.boolean)).before args0 about1 = true := code_word (m := ⟨10, 2⟩) (meth := k10m2) (c := k10c2) (by decide +kernel) rfl rfl rfl (by decide +kernel)
set_option maxRecDepth 65536 in
theorem w_c15 : (Jvm.Cond.code ({ cls := "java/lang/Math", name := "min", desc := "(II)I" } : Jvm.MethodName) jdk_29_method_69_code (2 : Nat) (Option.some Jvm.ClassFile.FieldType.int)).before args0 about1 = true := code_word (m := ⟨11, 1⟩) (meth := k11m1) (c := k11c1) (by decide +kernel) rfl rfl rfl (by decide +kernel)
set_option maxRecDepth 65536 in
theorem w_c16 : (Jvm.Cond.code ({ cls := "java/lang/String", name := "substring", desc := "(I)Ljava/lang/String;" } : Jvm.MethodName) jdk_42_method_91_code (2 : Nat) (Option.some (Jvm.ClassFile.FieldType.object "java/lang/String"))).before args0 about1 = true := code_word (m := ⟨7, 6⟩) (meth := k7m6) (c := k7c6) (by decide +kernel) rfl rfl rfl (by decide +kernel)
set_option maxRecDepth 65536 in
theorem w_c17 : (Jvm.Cond.code ({ cls := "java/lang/String", name := "substring", desc := "(II)Ljava/lang/String;" } : Jvm.MethodName) jdk_42_method_92_code (5 : Nat) (Option.some (Jvm.ClassFile.FieldType.object "java/lang/String"))).before args0 about1 = true := code_word (m := ⟨7, 7⟩) (meth := k7m7) (c := k7c7) (by decide +kernel) rfl rfl rfl (by decide +kernel)
set_option maxRecDepth 65536 in
theorem w_c18 : (Jvm.Cond.code ({ cls := "java/lang/String", name := "checkBoundsBeginEnd", desc := "(III)V" } : Jvm.MethodName) jdk_42_method_158_code (3 : Nat) (Option.none : Option Jvm.ClassFile.FieldType)).before args0 about1 = true := code_word (m := ⟨7, 13⟩) (meth := k7m13) (c := k7c13) (by decide +kernel) rfl rfl rfl (by decide +kernel)
set_option maxRecDepth 65536 in
theorem w_c19 : (Jvm.Cond.code ({ cls := "jdk/internal/util/Preconditions", name := "checkFromToIndex", desc := "(IIILjava/util/function/BiFunction;)I" } : Jvm.MethodName) jdk_41_method_12_code (4 : Nat) (Option.some Jvm.ClassFile.FieldType.int)).before args0 about1 = true := code_word (m := ⟨12, 2⟩) (meth := k12m2) (c := k12c2) (by decide +kernel) rfl rfl rfl (by decide +kernel)
set_option maxRecDepth 65536 in
theorem w_c20 : (Jvm.Cond.code ({ cls := "com/example/ullr/ullr/files/ListedFileNamePinLaw", name := "at", desc := "(Ljava/lang/String;[CIII)Z" } : Jvm.MethodName) method_3_code (5 : Nat) (Option.some Jvm.ClassFile.FieldType.boolean)).before args0 about1 = true := code_word (m := ⟨1, 2⟩) (meth := k1m2) (c := k1c2) (by decide +kernel) rfl rfl rfl (by decide +kernel)
set_option maxRecDepth 65536 in
theorem w_c21 : (Jvm.Cond.code ({ cls := "java/lang/StringUTF16", name := "compress", desc := "([CII)[B" } : Jvm.MethodName) jdk_52_method_16_code (6 : Nat) (Option.some (Jvm.ClassFile.FieldType.array Jvm.ClassFile.FieldType.byte))).before args0 about1 = true := code_word (m := ⟨13, 2⟩) (meth := k13m2) (c := k13c2) (by decide +kernel) rfl rfl rfl (by decide +kernel)
set_option maxRecDepth 65536 in
theorem w_c22 : (Jvm.Cond.code ({ cls := "java/lang/StringUTF16", name := "compress", desc := "([CI[BII)I" } : Jvm.MethodName) jdk_52_method_21_code (7 : Nat) (Option.some Jvm.ClassFile.FieldType.int)).before args0 about1 = true := code_word (m := ⟨13, 3⟩) (meth := k13m3) (c := k13c3) (by decide +kernel) rfl rfl rfl (by decide +kernel)
set_option maxRecDepth 65536 in
theorem w_c23 : (Jvm.Cond.code ({ cls := "java/lang/StringUTF16", name := "coderFromArrayLen", desc := "([BI)B" } : Jvm.MethodName) jdk_52_method_15_code (2 : Nat) (Option.some Jvm.ClassFile.FieldType.byte)).before args0 about1 = true := code_word (m := ⟨13, 1⟩) (meth := k13m1) (c := k13c1) (by decide +kernel) rfl rfl rfl (by decide +kernel)
set_option maxRecDepth 65536 in
theorem w_c24 : (Jvm.Cond.code ({ cls := "java/lang/StringLatin1", name := "newString", desc := "([BII)Ljava/lang/String;" } : Jvm.MethodName) jdk_43_method_47_code (3 : Nat) (Option.some (Jvm.ClassFile.FieldType.object "java/lang/String"))).before args0 about1 = true := code_word (m := ⟨10, 4⟩) (meth := k10m4) (c := k10c4) (by decide +kernel) rfl rfl rfl (by decide +kernel)
set_option maxRecDepth 65536 in
theorem w_c25 : (Jvm.Cond.code ({ cls := "java/util/Arrays", name := "copyOfRange", desc := "([BII)[B" } : Jvm.MethodName) jdk_65_method_132_code (3 : Nat) (Option.some (Jvm.ClassFile.FieldType.array Jvm.ClassFile.FieldType.byte))).before args0 about1 = true := code_word (m := ⟨14, 2⟩) (meth := k14m2) (c := k14c2) (by decide +kernel) rfl rfl rfl (by decide +kernel)
set_option maxRecDepth 65536 in
theorem w_c26 : (Jvm.Cond.code ({ cls := "java/util/Arrays", name := "copyOfRangeByte", desc := "([BII)[B" } : Jvm.MethodName) jdk_65_method_133_code (5 : Nat) (Option.some (Jvm.ClassFile.FieldType.array Jvm.ClassFile.FieldType.byte))).before args0 about1 = true := code_word (m := ⟨14, 3⟩) (meth := k14m3) (c := k14c3) (by decide +kernel) rfl rfl rfl (by decide +kernel)
set_option maxRecDepth 65536 in
theorem w_c27 : (Jvm.Cond.code ({ cls := "java/util/Arrays", name := "checkLength", desc := "(II)V" } : Jvm.MethodName) jdk_65_method_131_code (2 : Nat) (Option.none : Option Jvm.ClassFile.FieldType)).before args0 about1 = true := code_word (m := ⟨14, 1⟩) (meth := k14m1) (c := k14c1) (by decide +kernel) rfl rfl rfl (by decide +kernel)
set_option maxRecDepth 65536 in
theorem w_c28 : (Jvm.Cond.code ({ cls := "java/lang/String", name := "<init>", desc := "([BB)V" } : Jvm.MethodName) jdk_42_method_151_code (3 : Nat) (Option.none : Option Jvm.ClassFile.FieldType)).before args0 about1 = true := code_word (m := ⟨7, 9⟩) (meth := k7m9) (c := k7c9) (by decide +kernel) rfl rfl rfl (by decide +kernel)
set_option maxRecDepth 65536 in
theorem w_c29 : (Jvm.Cond.code ({ cls := "java/lang/String", name := "charAt", desc := "(I)C" } : Jvm.MethodName) jdk_42_method_56_code (2 : Nat) (Option.some Jvm.ClassFile.FieldType.char)).before args0 about1 = true := code_word (m := ⟨7, 3⟩) (meth := k7m3) (c := k7c3) (by decide +kernel) rfl rfl rfl (by decide +kernel)
set_option maxRecDepth 65536 in
theorem w_c30 : (Jvm.Cond.code ({ cls := "java/lang/StringLatin1", name := "charAt", desc := "([BI)C" } : Jvm.MethodName) jdk_43_method_2_code (2 : Nat) (Option.some Jvm.ClassFile.FieldType.char)).before args0 about1 = true := code_word (m := ⟨10, 1⟩) (meth := k10m1) (c := k10c1) (by decide +kernel) rfl rfl rfl (by decide +kernel)
set_option maxRecDepth 65536 in
theorem w_c31 : (Jvm.Cond.code ({ cls := "java/lang/String", name := "checkIndex", desc := "(II)V" } : Jvm.MethodName) jdk_42_method_155_code (2 : Nat) (Option.none : Option Jvm.ClassFile.FieldType)).before args0 about1 = true := code_word (m := ⟨7, 12⟩) (meth := k7m12) (c := k7c12) (by decide +kernel) rfl rfl rfl (by decide +kernel)
set_option maxRecDepth 65536 in
theorem w_c32 : (Jvm.Cond.code ({ cls := "jdk/internal/util/Preconditions", name := "checkIndex", desc := "(IILjava/util/function/BiFunction;)I" } : Jvm.MethodName) jdk_41_method_11_code (3 : Nat) (Option.some Jvm.ClassFile.FieldType.int)).before args0 about1 = true := code_word (m := ⟨12, 1⟩) (meth := k12m1) (c := k12c1) (by decide +kernel) rfl rfl rfl (by decide +kernel)
def codes1 : List Jvm.Cond := [Jvm.Cond.code x code maxLocals ret, Jvm.Cond.code ({ cls := "com/example/ullr/ullr/files/ListedFileNamePinLaw", name := "pick", desc := "(I)C" } : Jvm.MethodName) method_2_code (1 : Nat) (Option.some Jvm.ClassFile.FieldType.char), Jvm.Cond.code ({ cls := "java/lang/String", name := "<init>", desc := "([C)V" } : Jvm.MethodName) jdk_42_method_3_code (2 : Nat) (Option.none : Option Jvm.ClassFile.FieldType), Jvm.Cond.code ({ cls := "java/lang/String", name := "<init>", desc := "([CIILjava/lang/Void;)V" } : Jvm.MethodName) jdk_42_method_149_code (6 : Nat) (Option.none : Option Jvm.ClassFile.FieldType), Jvm.Cond.code ({ cls := "java/lang/Object", name := "<init>", desc := "()V" } : Jvm.MethodName) object_method_1_code (1 : Nat) (Option.none : Option Jvm.ClassFile.FieldType), Jvm.Cond.code ({ cls := "com/example/ullr/ullr/files/ListedFile", name := "<init>", desc := "(Ljava/lang/String;J)V" } : Jvm.MethodName) prog_26_method_1_code (4 : Nat) (Option.none : Option Jvm.ClassFile.FieldType), Jvm.Cond.code ({ cls := "java/util/Objects", name := "requireNonNull", desc := "(Ljava/lang/Object;Ljava/lang/String;)Ljava/lang/Object;" } : Jvm.MethodName) jdk_31_method_11_code (2 : Nat) (Option.some (Jvm.ClassFile.FieldType.object "java/lang/Object")), Jvm.Cond.code ({ cls := "com/example/ullr/ullr/files/ListedFile", name := "name", desc := "()Ljava/lang/String;" } : Jvm.MethodName) prog_26_method_4_code (1 : Nat) (Option.some (Jvm.ClassFile.FieldType.object "java/lang/String")), Jvm.Cond.code ({ cls := "java/lang/String", name := "lastIndexOf", desc := "(I)I" } : Jvm.MethodName) jdk_42_method_82_code (2 : Nat) (Option.some Jvm.ClassFile.FieldType.int), Jvm.Cond.code ({ cls := "java/lang/String", name := "length", desc := "()I" } : Jvm.MethodName) jdk_42_method_54_code (1 : Nat) (Option.some Jvm.ClassFile.FieldType.int), Jvm.Cond.code ({ cls := "java/lang/String", name := "coder", desc := "()B" } : Jvm.MethodName) jdk_42_method_152_code (1 : Nat) (Option.some Jvm.ClassFile.FieldType.byte), Jvm.Cond.code ({ cls := "java/lang/String", name := "lastIndexOf", desc := "(II)I" } : Jvm.MethodName) jdk_42_method_83_code (3 : Nat) (Option.some Jvm.ClassFile.FieldType.int), Jvm.Cond.code ({ cls := "java/lang/String", name := "isLatin1", desc := "()Z" } : Jvm.MethodName) jdk_42_method_154_code (1 : Nat) (Option.some Jvm.ClassFile.FieldType.boolean), Jvm.Cond.code ({ cls := "java/lang/StringLatin1", name := "lastIndexOf", desc := "([BII)I" } : Jvm.MethodName) jdk_43_method_27_code (4 : Nat) (Option.some Jvm.ClassFile.FieldType.int), Jvm.Cond.code ({ cls := "java/lang/StringLatin1", name := "canEncode", desc := "(I)Z" } : Jvm.MethodName) jdk_43_method_4_code (1 : Nat) (Option.some Jvm.ClassFile.FieldType.boolean), Jvm.Cond.code ({ cls := "java/lang/Math", name := "min", desc := "(II)I" } : Jvm.MethodName) jdk_29_method_69_code (2 : Nat) (Option.some Jvm.ClassFile.FieldType.int), Jvm.Cond.code ({ cls := "java/lang/String", name := "substring", desc := "(I)Ljava/lang/String;" } : Jvm.MethodName) jdk_42_method_91_code (2 : Nat) (Option.some (Jvm.ClassFile.FieldType.object "java/lang/String")), Jvm.Cond.code ({ cls := "java/lang/String", name := "substring", desc := "(II)Ljava/lang/String;" } : Jvm.MethodName) jdk_42_method_92_code (5 : Nat) (Option.some (Jvm.ClassFile.FieldType.object "java/lang/String")), Jvm.Cond.code ({ cls := "java/lang/String", name := "checkBoundsBeginEnd", desc := "(III)V" } : Jvm.MethodName) jdk_42_method_158_code (3 : Nat) (Option.none : Option Jvm.ClassFile.FieldType), Jvm.Cond.code ({ cls := "jdk/internal/util/Preconditions", name := "checkFromToIndex", desc := "(IIILjava/util/function/BiFunction;)I" } : Jvm.MethodName) jdk_41_method_12_code (4 : Nat) (Option.some Jvm.ClassFile.FieldType.int), Jvm.Cond.code ({ cls := "com/example/ullr/ullr/files/ListedFileNamePinLaw", name := "at", desc := "(Ljava/lang/String;[CIII)Z" } : Jvm.MethodName) method_3_code (5 : Nat) (Option.some Jvm.ClassFile.FieldType.boolean), Jvm.Cond.code ({ cls := "java/lang/StringUTF16", name := "compress", desc := "([CII)[B" } : Jvm.MethodName) jdk_52_method_16_code (6 : Nat) (Option.some (Jvm.ClassFile.FieldType.array Jvm.ClassFile.FieldType.byte)), Jvm.Cond.code ({ cls := "java/lang/StringUTF16", name := "compress", desc := "([CI[BII)I" } : Jvm.MethodName) jdk_52_method_21_code (7 : Nat) (Option.some Jvm.ClassFile.FieldType.int), Jvm.Cond.code ({ cls := "java/lang/StringUTF16", name := "coderFromArrayLen", desc := "([BI)B" } : Jvm.MethodName) jdk_52_method_15_code (2 : Nat) (Option.some Jvm.ClassFile.FieldType.byte), Jvm.Cond.code ({ cls := "java/lang/StringLatin1", name := "newString", desc := "([BII)Ljava/lang/String;" } : Jvm.MethodName) jdk_43_method_47_code (3 : Nat) (Option.some (Jvm.ClassFile.FieldType.object "java/lang/String")), Jvm.Cond.code ({ cls := "java/util/Arrays", name := "copyOfRange", desc := "([BII)[B" } : Jvm.MethodName) jdk_65_method_132_code (3 : Nat) (Option.some (Jvm.ClassFile.FieldType.array Jvm.ClassFile.FieldType.byte)), Jvm.Cond.code ({ cls := "java/util/Arrays", name := "copyOfRangeByte", desc := "([BII)[B" } : Jvm.MethodName) jdk_65_method_133_code (5 : Nat) (Option.some (Jvm.ClassFile.FieldType.array Jvm.ClassFile.FieldType.byte)), Jvm.Cond.code ({ cls := "java/util/Arrays", name := "checkLength", desc := "(II)V" } : Jvm.MethodName) jdk_65_method_131_code (2 : Nat) (Option.none : Option Jvm.ClassFile.FieldType), Jvm.Cond.code ({ cls := "java/lang/String", name := "<init>", desc := "([BB)V" } : Jvm.MethodName) jdk_42_method_151_code (3 : Nat) (Option.none : Option Jvm.ClassFile.FieldType), Jvm.Cond.code ({ cls := "java/lang/String", name := "charAt", desc := "(I)C" } : Jvm.MethodName) jdk_42_method_56_code (2 : Nat) (Option.some Jvm.ClassFile.FieldType.char), Jvm.Cond.code ({ cls := "java/lang/StringLatin1", name := "charAt", desc := "([BI)C" } : Jvm.MethodName) jdk_43_method_2_code (2 : Nat) (Option.some Jvm.ClassFile.FieldType.char), Jvm.Cond.code ({ cls := "java/lang/String", name := "checkIndex", desc := "(II)V" } : Jvm.MethodName) jdk_42_method_155_code (2 : Nat) (Option.none : Option Jvm.ClassFile.FieldType), Jvm.Cond.code ({ cls := "jdk/internal/util/Preconditions", name := "checkIndex", desc := "(IILjava/util/function/BiFunction;)I" } : Jvm.MethodName) jdk_41_method_11_code (3 : Nat) (Option.some Jvm.ClassFile.FieldType.int)]
set_option maxRecDepth 65536 in
theorem codes_eq : words1.filter isCode = codes1 := rfl
theorem w_codes : ∀ c ∈ words1.filter isCode, c.before args0 about1 = true := by
  rw [codes_eq]
  intro c hc
  simp only [codes1, List.mem_cons, List.not_mem_nil, or_false] at hc
  rcases hc with rfl | rfl | rfl | rfl | rfl | rfl | rfl | rfl | rfl | rfl | rfl | rfl | rfl | rfl | rfl | rfl | rfl | rfl | rfl | rfl | rfl | rfl | rfl | rfl | rfl | rfl | rfl | rfl | rfl | rfl | rfl | rfl | rfl
  · exact w_c0
  · exact w_c1
  · exact w_c2
  · exact w_c3
  · exact w_c4
  · exact w_c5
  · exact w_c6
  · exact w_c7
  · exact w_c8
  · exact w_c9
  · exact w_c10
  · exact w_c11
  · exact w_c12
  · exact w_c13
  · exact w_c14
  · exact w_c15
  · exact w_c16
  · exact w_c17
  · exact w_c18
  · exact w_c19
  · exact w_c20
  · exact w_c21
  · exact w_c22
  · exact w_c23
  · exact w_c24
  · exact w_c25
  · exact w_c26
  · exact w_c27
  · exact w_c28
  · exact w_c29
  · exact w_c30
  · exact w_c31
  · exact w_c32
set_option maxRecDepth 65536 in
theorem w_t1 : (words1.take 24).all (fun c => isCode c || c.before args0 about1) = true := by decide +kernel
set_option maxRecDepth 65536 in
theorem w_t2 : ((words1.drop 24).take 24).all (fun c => isCode c || c.before args0 about1) = true := by decide +kernel
set_option maxRecDepth 65536 in
theorem w_t3 : (((words1.drop 24).drop 24).take 24).all (fun c => isCode c || c.before args0 about1) = true := by decide +kernel
set_option maxRecDepth 65536 in
theorem w_t4 : ((((words1.drop 24).drop 24).drop 24).take 24).all (fun c => isCode c || c.before args0 about1) = true := by decide +kernel
set_option maxRecDepth 65536 in
theorem w_t5 : (((((words1.drop 24).drop 24).drop 24).drop 24).take 24).all (fun c => isCode c || c.before args0 about1) = true := by decide +kernel
set_option maxRecDepth 65536 in
theorem w_t6 : ((((((words1.drop 24).drop 24).drop 24).drop 24).drop 24).take 24).all (fun c => isCode c || c.before args0 about1) = true := by decide +kernel
set_option maxRecDepth 65536 in
theorem w_t7 : ((((((words1.drop 24).drop 24).drop 24).drop 24).drop 24).drop 24).all (fun c => isCode c || c.before args0 about1) = true := by decide +kernel
theorem w_tables : (allAtoms (Jvm.Cond.code x code maxLocals ret :: tables_1)).before args0 about1 = true := by
  rw [allAtoms_all]
  show words1.all (fun c => c.before args0 about1) = true
  refine all_split ?_ w_codes
  rw [← List.take_append_drop 24 words1, List.all_append, w_t1, ← List.take_append_drop 24 (words1.drop 24), List.all_append, w_t2, ← List.take_append_drop 24 ((words1.drop 24).drop 24), List.all_append, w_t3, ← List.take_append_drop 24 (((words1.drop 24).drop 24).drop 24), List.all_append, w_t4, ← List.take_append_drop 24 ((((words1.drop 24).drop 24).drop 24).drop 24), List.all_append, w_t5, ← List.take_append_drop 24 (((((words1.drop 24).drop 24).drop 24).drop 24).drop 24), List.all_append, w_t6, w_t7]
  rfl
set_option maxRecDepth 65536 in
theorem w_rest : rest_1_c.before args0 about1 = true := by decide +kernel
set_option maxRecDepth 65536 in
theorem w_case : (Jvm.Cond.and given_1 narrow_1).before args0 about1 = true := by decide +kernel
set_option maxRecDepth 65536 in
theorem w_consts : constsHeld consts_1 about1 := Jvm.Lit.constsHeldB_iff.mp (by decide +kernel)
theorem w_applies : (headSpec (Jvm.Cond.code x code maxLocals ret :: tables_1) room_1).applies x e0.platform about1 = true :=
  (Spec.applies_iff w_frames).mpr ⟨w_running, w_runnable, w_alone, w_named, w_hears, w_ripe, w_room, w_tables⟩
theorem atStart : AtStart classFile x code maxLocals ret World_1 tables_1 room_1 Calls_1 rest_1 Pre_1 launch0 p0 e0 about1 theMethod args0 below0 :=
  ⟨lists_1, trivial, launch0.admits_env _ _ _, launch0.least_env, fairChoices_fair.cas, fairChoices_fair.clock, w_frames, w_args, w_heap, w_applies, ⟨w_consts, trivial⟩, w_rest, w_case⟩
end start1
theorem witness_1 : WitnessClaimed_1 := ⟨start1.p0, start1.e0, start1.about1, start1.theMethod, start1.args0, start1.below0, start1.atStart⟩
end Jvm.Pilot.@@N@@
