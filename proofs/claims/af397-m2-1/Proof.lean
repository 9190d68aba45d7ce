import JvmDerived
import JvmDerived.Pilot.@@N@@Statement
import JvmDerived.Pilot.@@N@@Code
set_option linter.unusedVariables false
set_option linter.unusedSimpArgs false
namespace Jvm.RoadKit
open Sem ClassFile Op Lib Jvm.Stand Jvm.Free Jvm.LawKit
section New
variable {p : Program} {l : Launch} {e : Env} {R : Room} {s : State} {m : MethodId} {args : Array Value} {below : List Frame} {meth : Method} {c : Code} {T : State} {locs : List Loc} {cells slots : Nat}
theorem retI (X : Stand p l e R s m args below meth c T locs cells slots) (hx : p.tables.exec = Jvm.exec) {pc : Nat} {Ls : Array Slot} {z : Int32} {rest : List Value} (hret : meth.sig.returnType = some .int) (hd : decode c.code pc = .ok (.ireturn, 1)) {fs : List Frame}
    (hl : ∀ (f : JFrame) (acts : List Action), f.method = m → f.locked = none → f.entered = [] → (doReturn e (T.setTop f) acts (some (.int z))).1 = T.setFrames fs) : Steps p.tables e below (T.setTop (mkF m pc Ls (.int z :: rest))) (T.setFrames fs) := by
  have hm' : T.vm.method? m = some meth := X.method'
  have hn : narrow .int (.int z) = .int z := rfl
  show Steps p.tables e below (T.setTop { method := m, pc := pc, locals := Ls, stack := _ :: rest, locked := none }) _
  jvm_step X.here [X.here.top, hx, hd, hm', hret, hn]
  first | (intro acts; rw [hl _ acts rfl rfl rfl]) | rw [hl _ _ rfl rfl rfl]
  exact Steps.refl _
end New
end Jvm.RoadKit
/- laws to paste: Road.backV, Road.lenW, Road.chN, Road.codOf (cut by pick.py; bodies as the Statement names them) -/
namespace Jvm.Pilot.@@N@@
namespace StrChars
open Jvm Sem ClassFile Op Lib Jvm.Stand Jvm.Free.XT Jvm.Free.ALB Jvm.Free.JM Jvm.Free
open Jvm.Lib.Cold (StaticIs)
/-- a char array whose places are chars -/
def Ch (a : Addr) (A : Cell) (U : State) : Prop := Arr .char a A U ∧ Typed .char A
theorem Ch.mv {a : Addr} {A : Cell} {U U' : State} (h : Ch a A U) (hal : U.vm.Alike U'.vm) (hh : U'.heap = U.heap) : Ch a A U' := ⟨h.1.mv hal hh, h.2⟩
theorem Ch.keep {a : Addr} {A : Cell} {U U' : State} (h : Ch a A U) (hal : U.vm.Alike U'.vm) (hk : U'.heap[a]? = some A) : Ch a A U' := ⟨h.1.keep hal hk, h.2⟩
/-- what place i of a char[]'s cell holds -/
def cv (A : Cell) (i : Nat) : Int32 := match A.slots[i]? with | some (.int x) => x | _ => 0
theorem Ch.get {a : Addr} {A : Cell} {U : State} (h : Ch a A U) {i : Nat} (hi : i < A.slots.size) : A.slots[i]? = some (.int (cv A i)) := by
  have e := Array.getElem?_eq_getElem hi
  have f := h.2 i _ e
  unfold cv; rw [e]
  generalize A.slots[i] = v at f
  cases v <;> simp [fits] at f ⊢
/-- the byte that i2b leaves of a char -/
def lo8 (x : Int32) : Int32 := x.toInt8.toInt32
theorem fits_lo8 (y : Int32) : fits .byte (.int (lo8 y)) = true := by
  have h1 := y.toInt8.le_toInt
  have h2 := y.toInt8.toInt_lt
  simp only [lo8, fits, Bool.and_eq_true, decide_eq_true_eq, Int32.le_iff_toInt_le, Int8.toInt_toInt32, show (-128 : Int32).toInt = -128 from by decide, show (127 : Int32).toInt = 127 from by decide]
  omega
/-- A' is A but that each place j of lo .. hi - 1 holds f j -/
def Laid (A A' : Cell) (lo hi : Nat) (f : Nat → Value) : Prop := A'.cls = A.cls ∧ A'.vm = A.vm ∧ A'.slots.size = A.slots.size ∧ ∀ i, A'.slots[i]? = if lo ≤ i ∧ i < hi then some (f i) else A.slots[i]?
theorem Laid.zero (A : Cell) (lo : Nat) (f : Nat → Value) : Laid A A lo (lo + 0) f := ⟨rfl, rfl, rfl, fun i => by rw [if_neg (by omega)]⟩
theorem Laid.step {A Ak : Cell} {lo k : Nat} {f : Nat → Value} {v : Value} (h : Laid A Ak lo k f) (hlo : lo ≤ k) (hk : k < Ak.slots.size) (hv : v = f k) : Laid A (Ak.setSlot k v) lo (k + 1) f := by
  refine ⟨h.1, h.2.1, by simpa [Cell.setSlot] using h.2.2.1, fun i => ?_⟩
  by_cases e : k = i
  · subst e; rw [Cell.slots_setSlot_self v hk, if_pos (by omega), hv]
  · rw [Cell.slots_setSlot_ne v e, h.2.2.2 i]
    by_cases q : lo ≤ i ∧ i < k
    · rw [if_pos q, if_pos (by omega)]
    · rw [if_neg q, if_neg (by omega)]
def U16 : String := "java/lang/StringUTF16"
namespace Cmp5
def yN : MethodName := ⟨"java/lang/StringUTF16", "compress", "([CI[BII)I"⟩
abbrev yB : ByteArray := jdk_52_method_21_code
theorem d0 : decode yB 0 = .ok (.iconst 0, 1) := by decide +kernel
theorem d1 : decode yB 1 = .ok (.istore 5, 2) := by decide +kernel
theorem d3 : decode yB 3 = .ok (.iload 5, 2) := by decide +kernel
theorem d5 : decode yB 5 = .ok (.iload 4, 2) := by decide +kernel
theorem d7 : decode yB 7 = .ok (.if_icmp (.ge) 37, 3) := by decide +kernel
theorem d10 : decode yB 10 = .ok (.aload_n 0, 1) := by decide +kernel
theorem d11 : decode yB 11 = .ok (.iload_n 1, 1) := by decide +kernel
theorem d12 : decode yB 12 = .ok (.caload, 1) := by decide +kernel
theorem d13 : decode yB 13 = .ok (.istore 6, 2) := by decide +kernel
theorem d15 : decode yB 15 = .ok (.iload 6, 2) := by decide +kernel
theorem d17 : decode yB 17 = .ok (.sipush 255, 3) := by decide +kernel
theorem d20 : decode yB 20 = .ok (.if_icmp (.le) 6, 3) := by decide +kernel
theorem d26 : decode yB 26 = .ok (.aload_n 2, 1) := by decide +kernel
theorem d27 : decode yB 27 = .ok (.iload_n 3, 1) := by decide +kernel
theorem d28 : decode yB 28 = .ok (.iload 6, 2) := by decide +kernel
theorem d30 : decode yB 30 = .ok (.i2b, 1) := by decide +kernel
theorem d31 : decode yB 31 = .ok (.bastore, 1) := by decide +kernel
theorem d32 : decode yB 32 = .ok (.iinc 1 1, 3) := by decide +kernel
theorem d35 : decode yB 35 = .ok (.iinc 3 1, 3) := by decide +kernel
theorem d38 : decode yB 38 = .ok (.iinc 5 1, 3) := by decide +kernel
theorem d41 : decode yB 41 = .ok (.goto (-38), 3) := by decide +kernel
theorem d44 : decode yB 44 = .ok (.iload 4, 2) := by decide +kernel
theorem d46 : decode yB 46 = .ok (.ireturn, 1) := by decide +kernel
def site : List Cond := []
def tab : Cond := tabOf yN yB 7 (some .int) site
def P (b : Addr) (A : Cell) (d : Addr) (B : Cell) (o q len : Nat) (args : Array Value) (s : State) : Prop := args = #[.ref b, .int (Int32.ofNat o), .ref d, .int (Int32.ofNat q), .int (Int32.ofNat len)] ∧ Ch b A s ∧ Arr .byte d B s ∧ b ≠ d ∧ o + len ≤ A.slots.size ∧ q + len ≤ B.slots.size ∧ ∀ i, i < len → ¬ 255 < cv A (o + i)
def E (b : Addr) (A : Cell) (d : Addr) (B : Cell) (o q len : Nat) (r : Option Value) (s u : State) : Prop := r = some (.int (Int32.ofNat len)) ∧ ∃ B', Put d B' s u ∧ Laid B B' q (q + len) (fun j => Value.int (lo8 (cv A (o + (j - q)))))
/-- no char of the range above 255: len; the places written hold each char's low byte -/
theorem law (l : Launch) (b : Addr) (A : Cell) (d : Addr) (B : Cell) (o q len : Nat) : Law l yN 5 5 0 0 yB 7 (some .int) site (P b A d B o q len) (E b A d B o q len) (copyLocs d q len) 0 0 := by
  refine Law.of_walk (plainFor_of_name (by decide +kernel)) (by decide +kernel) (by decide +kernel) (by decide) (fun _ _ h => by rw [h.1]; rfl) (fun _ U U' hal hh h => ⟨h.1, h.2.1.mv hal hh, h.2.2.1.mv hal hh, h.2.2.2⟩) (fun r U U' V V' h1 hal h2 h => ⟨h.1, h.2.elim fun B' q => ⟨B', q.1.mv h1 h2, q.2⟩⟩) ?_
  intro p e s m args below meth c s₁ X0 hexec hbytes hml hret hlk hnm hown hh0 W hP
  obtain ⟨rfl, hA, hB, hne, l1, l2, hp⟩ := hP
  have c1 : Steps p.tables e below (s₁.setTop (entryFrame m #[.ref b, .int (Int32.ofNat o), .ref d, .int (Int32.ofNat q), .int (Int32.ofNat len)] 7)) (s₁.setTop (mkF m 0 #[.val (.ref b), .val (.int (Int32.ofNat o)), .val (.ref d), .val (.int (Int32.ofNat q)), .val (.int (Int32.ofNat len)), .unset, .unset] [])) := entry rfl
  have hA0 := hA.1.mv X0.warmed.alike hh0
  have hB0 := hB.mv X0.warmed.alike hh0
  have a31 := hA.1.2.2.2
  have c2 : Steps p.tables e below (s₁.setTop (entryFrame m #[.ref b, .int (Int32.ofNat o), .ref d, .int (Int32.ofNat q), .int (Int32.ofNat len)] 7)) (s₁.setTop (mkF m 3 #[.val (.ref b), .val (.int (Int32.ofNat o)), .val (.ref d), .val (.int (Int32.ofNat q)), .val (.int (Int32.ofNat len)), .val (.int 0), .unset] [])) := c1.trans (by
    refine iconstV X0.here hexec rfl 0 (hb hbytes d0) (by decide) ?_
    refine XS.istore X0.here hexec rfl (hb hbytes d1) rfl rfl ?_
    exact Steps.refl _)
  have loop : ∀ (r i : Nat), i + r = len → ∀ (z : Slot), (z = .unset ∨ ∃ w, z = .val w ∧ w.category = 1) → ∀ (Tl : State) (Bk : Cell), Stand p l e { frames := 0, locals := 0, cells := 0, slots := 0 } s m #[.ref b, .int (Int32.ofNat o), .ref d, .int (Int32.ofNat q), .int (Int32.ofNat len)] below meth c Tl ([] ++ copyLocs d q i) 0 0 → Put d Bk s₁ Tl → Laid B Bk q (q + i) (fun j => Value.int (lo8 (cv A (o + (j - q))))) →
      Steps p.tables e below (s₁.setTop (entryFrame m #[.ref b, .int (Int32.ofNat o), .ref d, .int (Int32.ofNat q), .int (Int32.ofNat len)] 7)) (Tl.setTop (mkF m 3 #[.val (.ref b), .val (.int (Int32.ofNat (o + i))), .val (.ref d), .val (.int (Int32.ofNat (q + i))), .val (.int (Int32.ofNat len)), .val (.int (Int32.ofNat i)), z] [])) → ∃ (T' : State) (B' : Cell) (z' : Slot), Stand p l e { frames := 0, locals := 0, cells := 0, slots := 0 } s m #[.ref b, .int (Int32.ofNat o), .ref d, .int (Int32.ofNat q), .int (Int32.ofNat len)] below meth c T' ([] ++ copyLocs d q len) 0 0 ∧ Put d B' s₁ T' ∧ Laid B B' q (q + len) (fun j => Value.int (lo8 (cv A (o + (j - q))))) ∧
      Steps p.tables e below (s₁.setTop (entryFrame m #[.ref b, .int (Int32.ofNat o), .ref d, .int (Int32.ofNat q), .int (Int32.ofNat len)] 7)) (T'.setTop (mkF m 3 #[.val (.ref b), .val (.int (Int32.ofNat (o + len))), .val (.ref d), .val (.int (Int32.ofNat (q + len))), .val (.int (Int32.ofNat len)), .val (.int (Int32.ofNat len)), z'] [])) := by
    intro r
    induction r with
    | zero =>
      intro i hi z hz Tl Bk Xl pl fl cl
      have hil : i = len := by omega
      rw [hil] at Xl fl cl
      exact ⟨Tl, Bk, z, Xl, pl, fl, cl⟩
    | succ r ih =>
      intro i hi z hz Tl Bk Xl pl fl cl
      have all := X0.warmed.alike.symm.trans Xl.warmed.alike
      have hAl := hA0.keep all (pl.other hne hA0.1)
      have hBk := hB0.like all pl.1 fl.1 fl.2.1 fl.2.2.1
      have hlt : q + i < Bk.slots.size := by rw [fl.2.2.1]; omega
      have c3 : Steps p.tables e below (s₁.setTop (entryFrame m #[.ref b, .int (Int32.ofNat o), .ref d, .int (Int32.ofNat q), .int (Int32.ofNat len)] 7)) (Tl.setTop (mkF m 12 #[.val (.ref b), .val (.int (Int32.ofNat (o + i))), .val (.ref d), .val (.int (Int32.ofNat (q + i))), .val (.int (Int32.ofNat len)), .val (.int (Int32.ofNat i)), z] [.int (Int32.ofNat (o + i)), .ref b])) := cl.trans (by
        refine XS.iload Xl.here hexec rfl (hb hbytes d3) rfl ?_
        refine XS.iload Xl.here hexec rfl (hb hbytes d5) rfl ?_
        refine XS.icmpNo Xl.here hexec rfl (hb hbytes d7) rfl (ii_ge_f (lt32 (by omega) (by omega))) ?_
        refine XS.aloadN Xl.here hexec rfl (hb hbytes d10) rfl rfl ?_
        refine XS.iloadN Xl.here hexec rfl (hb hbytes d11) rfl ?_
        exact Steps.refl _)
      have c4 : Steps p.tables e below (s₁.setTop (entryFrame m #[.ref b, .int (Int32.ofNat o), .ref d, .int (Int32.ofNat q), .int (Int32.ofNat len)] 7)) (Tl.setTop (mkF m 13 #[.val (.ref b), .val (.int (Int32.ofNat (o + i))), .val (.ref d), .val (.int (Int32.ofNat (q + i))), .val (.int (Int32.ofNat len)), .val (.int (Int32.ofNat i)), z] [.int (cv A (o + i))])) := c3.trans (by
        refine Xl.aget hexec hAl rfl (hA.get (i := o + i) (by omega)) rfl rfl (hb hbytes d12) ?_
        exact Steps.refl _)
      have c5 : Steps p.tables e below (s₁.setTop (entryFrame m #[.ref b, .int (Int32.ofNat o), .ref d, .int (Int32.ofNat q), .int (Int32.ofNat len)] 7)) (Tl.setTop (mkF m 15 #[.val (.ref b), .val (.int (Int32.ofNat (o + i))), .val (.ref d), .val (.int (Int32.ofNat (q + i))), .val (.int (Int32.ofNat len)), .val (.int (Int32.ofNat i)), .val (.int (cv A (o + i)))] [])) := c4.trans (by
        refine XS.istoreS Xl.here hexec rfl (hb hbytes d13) rfl rfl hz ?_
        exact Steps.refl _)
      have c6 : Steps p.tables e below (s₁.setTop (entryFrame m #[.ref b, .int (Int32.ofNat o), .ref d, .int (Int32.ofNat q), .int (Int32.ofNat len)] 7)) (Tl.setTop (mkF m 31 #[.val (.ref b), .val (.int (Int32.ofNat (o + i))), .val (.ref d), .val (.int (Int32.ofNat (q + i))), .val (.int (Int32.ofNat len)), .val (.int (Int32.ofNat i)), .val (.int (cv A (o + i)))] [.int (lo8 (cv A (o + i))), .int (Int32.ofNat (q + i)), .ref d])) := c5.trans (by
        refine XS.iload Xl.here hexec rfl (hb hbytes d15) rfl ?_
        refine sipushV Xl.here hexec rfl 255 (hb hbytes d17) (by decide) ?_
        refine XS.icmpYes Xl.here hexec rfl (pc0 := 20) rfl (hb hbytes d20) rfl (ii_le_t (hp i (by omega))) (by decide) rfl ?_
        refine XS.aloadN Xl.here hexec rfl (hb hbytes d26) rfl rfl ?_
        refine XS.iloadN Xl.here hexec rfl (hb hbytes d27) rfl ?_
        refine XS.iload Xl.here hexec rfl (hb hbytes d28) rfl ?_
        refine i2b Xl.here hexec rfl (hb hbytes d30) rfl ?_
        exact Steps.refl _)
      obtain ⟨T7, X7, p7, st7⟩ := Xl.aput hexec hBk rfl hlt rfl (fits_lo8 (cv A (o + i))) (g := (mkF m 31 #[.val (.ref b), .val (.int (Int32.ofNat (o + i))), .val (.ref d), .val (.int (Int32.ofNat (q + i))), .val (.int (Int32.ofNat len)), .val (.int (Int32.ofNat i)), .val (.int (cv A (o + i)))] [.int (lo8 (cv A (o + i))), .int (Int32.ofNat (q + i)), .ref d])) rfl (rest := []) rfl (hb hbytes d31)
      have c8 : Steps p.tables e below (s₁.setTop (entryFrame m #[.ref b, .int (Int32.ofNat o), .ref d, .int (Int32.ofNat q), .int (Int32.ofNat len)] 7)) (T7.setTop (mkF m 32 #[.val (.ref b), .val (.int (Int32.ofNat (o + i))), .val (.ref d), .val (.int (Int32.ofNat (q + i))), .val (.int (Int32.ofNat len)), .val (.int (Int32.ofNat i)), .val (.int (cv A (o + i)))] [])) := c6.trans (st7 _ (Steps.refl _))
      have c9 : Steps p.tables e below (s₁.setTop (entryFrame m #[.ref b, .int (Int32.ofNat o), .ref d, .int (Int32.ofNat q), .int (Int32.ofNat len)] 7)) (T7.setTop (mkF m 3 #[.val (.ref b), .val (.int (Int32.ofNat (o + i) + 1)), .val (.ref d), .val (.int (Int32.ofNat (q + i) + 1)), .val (.int (Int32.ofNat len)), .val (.int (Int32.ofNat i + 1)), .val (.int (cv A (o + i)))] [])) := c8.trans (by
        refine iincV X7.here hexec rfl 1 (hb hbytes d32) (by decide) rfl rfl ?_
        refine iincV X7.here hexec rfl 1 (hb hbytes d35) (by decide) rfl rfl ?_
        refine iincV X7.here hexec rfl 1 (hb hbytes d38) (by decide) rfl rfl ?_
        refine XS.goto X7.here hexec rfl (pc0 := 41) rfl (hb hbytes d41) (by decide) rfl ?_
        exact Steps.refl _)
      have c10 : Steps p.tables e below (s₁.setTop (entryFrame m #[.ref b, .int (Int32.ofNat o), .ref d, .int (Int32.ofNat q), .int (Int32.ofNat len)] 7)) (T7.setTop (mkF m 3 #[.val (.ref b), .val (.int (Int32.ofNat (o + (i + 1)))), .val (.ref d), .val (.int (Int32.ofNat (q + (i + 1)))), .val (.int (Int32.ofNat len)), .val (.int (Int32.ofNat (i + 1))), .val (.int (cv A (o + i)))] [])) := by
        have := c9
        rw [succ32, succ32, succ32] at this
        exact this
      exact ih (i + 1) (by omega) _ (Or.inr ⟨_, rfl, rfl⟩) T7 _ (by rw [copyLocs_step, ← List.append_assoc]; exact X7) (pl.trans p7) (fl.step (by omega) hlt (by simp)) c10
  obtain ⟨T9, B9, z9, X9, p9, f9, g9⟩ := loop len 0 (by omega) .unset (Or.inl rfl) s₁ B (by simpa [copyLocs] using X0) ⟨hB0.1, fun _ _ => rfl, rfl⟩ (Laid.zero _ _ _) c2
  have c11 : Steps p.tables e below (s₁.setTop (entryFrame m #[.ref b, .int (Int32.ofNat o), .ref d, .int (Int32.ofNat q), .int (Int32.ofNat len)] 7)) (T9.setTop (mkF m 46 #[.val (.ref b), .val (.int (Int32.ofNat (o + len))), .val (.ref d), .val (.int (Int32.ofNat (q + len))), .val (.int (Int32.ofNat len)), .val (.int (Int32.ofNat len)), z9] [.int (Int32.ofNat len)])) := g9.trans (by
    refine XS.iload X9.here hexec rfl (hb hbytes d3) rfl ?_
    refine XS.iload X9.here hexec rfl (hb hbytes d5) rfl ?_
    refine XS.icmpYes X9.here hexec rfl (pc0 := 7) rfl (hb hbytes d7) rfl (ii_ge_t (nlt32 (by omega) (Nat.le_refl _))) (by decide) rfl ?_
    refine XS.iload X9.here hexec rfl (hb hbytes d44) rfl ?_
    exact Steps.refl _)
  exact ⟨T9, some (.int (Int32.ofNat len)), _, _, _, X9, by simp, rfl, rfl, (fun h => by cases h), ⟨rfl, B9, p9.from hh0, f9⟩, fun fs hl => c11.trans (X9.ireturnOut hexec hret rfl (Or.inl rfl) (hb hbytes d46) hl)⟩
end Cmp5
namespace Cmp3
def yN : MethodName := ⟨"java/lang/StringUTF16", "compress", "([CII)[B"⟩
abbrev yB : ByteArray := jdk_52_method_16_code
theorem d0 : decode yB 0 = .ok (.iload_n 2, 1) := by decide +kernel
theorem d1 : decode yB 1 = .ok (.newarray .byte, 2) := by decide +kernel
theorem d3 : decode yB 3 = .ok (.astore_n 3, 1) := by decide +kernel
theorem d4 : decode yB 4 = .ok (.aload_n 0, 1) := by decide +kernel
theorem d5 : decode yB 5 = .ok (.iload_n 1, 1) := by decide +kernel
theorem d6 : decode yB 6 = .ok (.aload_n 3, 1) := by decide +kernel
theorem d7 : decode yB 7 = .ok (.iconst 0, 1) := by decide +kernel
theorem d8 : decode yB 8 = .ok (.iload_n 2, 1) := by decide +kernel
theorem d9 : decode yB 9 = .ok (.invokestatic 115, 3) := by decide +kernel
theorem d12 : decode yB 12 = .ok (.istore 4, 2) := by decide +kernel
theorem d14 : decode yB 14 = .ok (.iload 4, 2) := by decide +kernel
theorem d16 : decode yB 16 = .ok (.iload_n 2, 1) := by decide +kernel
theorem d17 : decode yB 17 = .ok (.if_icmp (.eq) 40, 3) := by decide +kernel
theorem d57 : decode yB 57 = .ok (.aload_n 3, 1) := by decide +kernel
theorem d58 : decode yB 58 = .ok (.areturn, 1) := by decide +kernel
def site : List Cond := [.arrayClass .byte, Cmp5.tab] ++ staticW U16 115 Cmp5.yN
def tab : Cond := tabOf yN yB 6 (some (.array .byte)) site
def P (b : Addr) (A : Cell) (o len : Nat) (args : Array Value) (s : State) : Prop := args = #[.ref b, .int (Int32.ofNat o), .int (Int32.ofNat len)] ∧ Ch b A s ∧ o + len ≤ A.slots.size ∧ len ≤ 536870912 ∧ ∀ i, i < len → ¬ 255 < cv A (o + i)
def E (b : Addr) (A : Cell) (o len : Nat) (r : Option Value) (s u : State) : Prop := NewArr .byte "[B" len (fun j => .int (lo8 (cv A (o + j)))) r s u ∧ u.heap.size = s.heap.size + 1
/-- no char of the range above 255: a new byte[] of their low bytes -/
theorem law (l : Launch) (b : Addr) (A : Cell) (o len : Nat) : Law l yN 3 3 1 18 yB 6 (some (.array .byte)) site (P b A o len) (E b A o len) [] 1 len := by
  refine Law.of_walk (plainFor_of_name (by decide +kernel)) (by decide +kernel) (by decide +kernel) (by decide) (fun _ _ h => by rw [h.1]; rfl) (fun _ U U' hal hh h => ⟨h.1, h.2.1.mv hal hh, h.2.2⟩) (fun r U U' V V' h1 hal h2 h => ⟨NewArr.mv r U U' V V' h1 hal h2 h.1, by rw [h1, h2]; exact h.2⟩) ?_
  intro p e s m args below meth c s₁ X0 hexec hbytes hml hret hlk hnm hown hh0 W hP
  obtain ⟨rfl, hA, l1, l2, hp⟩ := hP
  have a31 := hA.1.2.2.2
  have c1 : Steps p.tables e below (s₁.setTop (entryFrame m #[.ref b, .int (Int32.ofNat o), .int (Int32.ofNat len)] 6)) (s₁.setTop (mkF m 0 #[.val (.ref b), .val (.int (Int32.ofNat o)), .val (.int (Int32.ofNat len)), .unset, .unset, .unset] [])) := entry rfl
  have c2 : Steps p.tables e below (s₁.setTop (entryFrame m #[.ref b, .int (Int32.ofNat o), .int (Int32.ofNat len)] 6)) (s₁.setTop (mkF m 1 #[.val (.ref b), .val (.int (Int32.ofNat o)), .val (.int (Int32.ofNat len)), .unset, .unset, .unset] [.int (Int32.ofNat len)])) := c1.trans (by
    refine XS.iloadN X0.here hexec rfl (hb hbytes d0) rfl ?_
    exact Steps.refl _)
  obtain ⟨T3, B3, X3, ba3, bs3, bv3, bh3, bf3, st3⟩ := X0.anew hexec (atype := .byte) (wk W (.arrayClass .byte)) rfl (by show len * 1 ≤ _; omega) (by omega) (g := (mkF m 1 #[.val (.ref b), .val (.int (Int32.ofNat o)), .val (.int (Int32.ofNat len)), .unset, .unset, .unset] [.int (Int32.ofNat len)])) rfl (hb hbytes d1) (rest := []) rfl (Nat.le_refl _) (by show 0 + len ≤ len; omega)
  rw [hh0] at ba3 st3
  have kp3 : XT.Kept s T3 := (XT.Kept.of_eq hh0).push bh3
  have hA3 := hA.keep X3.warmed.alike (kp3 _ _ hA.1.1)
  have hne : b ≠ s.heap.size := hA.1.ne
  have c4 : Steps p.tables e below (s₁.setTop (entryFrame m #[.ref b, .int (Int32.ofNat o), .int (Int32.ofNat len)] 6)) (T3.setTop (mkF m 3 #[.val (.ref b), .val (.int (Int32.ofNat o)), .val (.int (Int32.ofNat len)), .unset, .unset, .unset] [.ref s.heap.size])) := c2.trans (st3 _ (Steps.refl _))
  have c5 : Steps p.tables e below (s₁.setTop (entryFrame m #[.ref b, .int (Int32.ofNat o), .int (Int32.ofNat len)] 6)) (T3.setTop (mkF m 9 #[.val (.ref b), .val (.int (Int32.ofNat o)), .val (.int (Int32.ofNat len)), .val (.ref s.heap.size), .unset, .unset] [.int (Int32.ofNat len), .int 0, .ref s.heap.size, .int (Int32.ofNat o), .ref b])) := c4.trans (by
    refine XS.astoreN X3.here hexec rfl (hb hbytes d3) rfl rfl rfl ?_
    refine XS.aloadN X3.here hexec rfl (hb hbytes d4) rfl rfl ?_
    refine XS.iloadN X3.here hexec rfl (hb hbytes d5) rfl ?_
    refine XS.aloadN X3.here hexec rfl (hb hbytes d6) rfl rfl ?_
    refine iconstV X3.here hexec rfl 0 (hb hbytes d7) (by decide) ?_
    refine XS.iloadN X3.here hexec rfl (hb hbytes d8) rfl ?_
    exact Steps.refl _)
  obtain ⟨v6, T6, X6, E6, g6⟩ := X3.callS hexec (Cmp5.law l b A s.heap.size B3 o 0 len) hown (wks W (staticW U16 115 Cmp5.yN)) (wk W Cmp5.tab) (W := 0) (Nat.le_of_ble_eq_true rfl) (Nat.le_of_ble_eq_true rfl) (Nat.le_refl _) (by show 0 + len + 0 ≤ len; omega) (g := (mkF m 9 #[.val (.ref b), .val (.int (Int32.ofNat o)), .val (.int (Int32.ofNat len)), .val (.ref s.heap.size), .unset, .unset] [.int (Int32.ofNat len), .int (Int32.ofNat 0), .ref s.heap.size, .int (Int32.ofNat o), .ref b])) rfl (by rw [hml]; rfl) c5 (argsL := [.ref b, .int (Int32.ofNat o), .ref s.heap.size, .int (Int32.ofNat 0), .int (Int32.ofNat len)]) (rest := []) rfl rfl (by show 2 * 0 + 0 ≤ _; decide) (hb hbytes d9) (⟨rfl, hA3, ba3, hne, l1, by rw [bs3]; simp, hp⟩)
  obtain ⟨rfl, B6, p6, f6⟩ := E6
  have c7 : Steps p.tables e below (s₁.setTop (entryFrame m #[.ref b, .int (Int32.ofNat o), .int (Int32.ofNat len)] 6)) (T6.setTop (mkF m 12 #[.val (.ref b), .val (.int (Int32.ofNat o)), .val (.int (Int32.ofNat len)), .val (.ref s.heap.size), .unset, .unset] [.int (Int32.ofNat len)])) := g6
  have c8 : Steps p.tables e below (s₁.setTop (entryFrame m #[.ref b, .int (Int32.ofNat o), .int (Int32.ofNat len)] 6)) (T6.setTop (mkF m 58 #[.val (.ref b), .val (.int (Int32.ofNat o)), .val (.int (Int32.ofNat len)), .val (.ref s.heap.size), .val (.int (Int32.ofNat len)), .unset] [.ref s.heap.size])) := c7.trans (by
    refine XS.istore X6.here hexec rfl (hb hbytes d12) rfl rfl ?_
    refine XS.iload X6.here hexec rfl (hb hbytes d14) rfl ?_
    refine XS.iloadN X6.here hexec rfl (hb hbytes d16) rfl ?_
    refine XS.icmpYes X6.here hexec rfl (pc0 := 17) rfl (hb hbytes d17) rfl (ii_eq_t rfl) (by decide) rfl ?_
    refine XS.aloadN X6.here hexec rfl (hb hbytes d57) rfl rfl ?_
    exact Steps.refl _)
  have X8 := X6.wide (L' := []) (cells' := 1) (slots' := len) (fun x hx hlt => by
    simp only [List.nil_append, copyLocs, List.mem_map, List.mem_range] at hx
    obtain ⟨i, -, rfl⟩ := hx
    exact absurd hlt (Nat.lt_irrefl _)) (Nat.le_refl _) (by omega)
  exact ⟨T6, some (.ref s.heap.size), _, _, _, X8, rfl, rfl, rfl, (fun h => by cases h), ⟨⟨rfl, B6, ba3.like (X3.warmed.alike.symm.trans X6.warmed.alike) p6.1 f6.1 f6.2.1 f6.2.2.1, f6.2.1.trans bv3, by rw [X6.warmed.alike.findClass, f6.1]; exact bf3, by rw [f6.2.2.1, bs3]; simp, fun j hj => by rw [f6.2.2.2 j, if_pos (by omega)]; rfl, kp3.put p6 (Nat.le_refl _)⟩, by rw [p6.2.2, bh3, hh0]; simp⟩, fun fs hl => c8.trans (X8.areturnOut hexec rfl hret rfl (hb hbytes d58) hl)⟩
end Cmp3
namespace CodL
def yN : MethodName := ⟨"java/lang/StringUTF16", "coderFromArrayLen", "([BI)B"⟩
abbrev yB : ByteArray := jdk_52_method_15_code
theorem d0 : decode yB 0 = .ok (.iload_n 1, 1) := by decide +kernel
theorem d1 : decode yB 1 = .ok (.aload_n 0, 1) := by decide +kernel
theorem d2 : decode yB 2 = .ok (.arraylength, 1) := by decide +kernel
theorem d3 : decode yB 3 = .ok (.isub, 1) := by decide +kernel
theorem d4 : decode yB 4 = .ok (.bipush 31, 2) := by decide +kernel
theorem d6 : decode yB 6 = .ok (.iushr, 1) := by decide +kernel
theorem d7 : decode yB 7 = .ok (.i2b, 1) := by decide +kernel
theorem d8 : decode yB 8 = .ok (.ireturn, 1) := by decide +kernel
def site : List Cond := []
def tab : Cond := tabOf yN yB 2 (some .byte) site
def P (d : Addr) (B : Cell) (args : Array Value) (s : State) : Prop := args = #[.ref d, .int (Int32.ofNat B.slots.size)] ∧ Arr .byte d B s
def E (r : Option Value) (s u : State) : Prop := XT.PureE (some (.int 0)) r s u
/-- an array as long as the number of chars: LATIN1 -/
theorem law (l : Launch) (d : Addr) (B : Cell) : Law l yN 2 2 0 0 yB 2 (some .byte) site (P d B) E [] 0 0 := by
  refine Law.of_walk (plainFor_of_name (by decide +kernel)) (by decide +kernel) (by decide +kernel) (by decide) (fun _ _ h => by rw [h.1]; rfl) (fun _ U U' hal hh h => ⟨h.1, h.2.mv hal hh⟩) (fun r U U' V V' h1 hal h2 h => XT.PureE.mv r U U' V V' h1 hal h2 h) ?_
  intro p e s m args below meth c s₁ X0 hexec hbytes hml hret hlk hnm hown hh0 W hP
  obtain ⟨rfl, hB⟩ := hP
  have hB0 := hB.mv X0.warmed.alike hh0
  have c1 : Steps p.tables e below (s₁.setTop (entryFrame m #[.ref d, .int (Int32.ofNat B.slots.size)] 2)) (s₁.setTop (mkF m 0 #[.val (.ref d), .val (.int (Int32.ofNat B.slots.size))] [])) := entry rfl
  have c2 : Steps p.tables e below (s₁.setTop (entryFrame m #[.ref d, .int (Int32.ofNat B.slots.size)] 2)) (s₁.setTop (mkF m 2 #[.val (.ref d), .val (.int (Int32.ofNat B.slots.size))] [.ref d, .int (Int32.ofNat B.slots.size)])) := c1.trans (by
    refine XS.iloadN X0.here hexec rfl (hb hbytes d0) rfl ?_
    refine XS.aloadN X0.here hexec rfl (hb hbytes d1) rfl rfl ?_
    exact Steps.refl _)
  have c3 : Steps p.tables e below (s₁.setTop (entryFrame m #[.ref d, .int (Int32.ofNat B.slots.size)] 2)) (s₁.setTop (mkF m 8 #[.val (.ref d), .val (.int (Int32.ofNat B.slots.size))] [.int (lo8 (ushr (Int32.ofNat B.slots.size - Int32.ofNat B.slots.size) 31))])) := c2.trans (by
    refine X0.alen hexec hB0 rfl rfl (hb hbytes d2) ?_
    refine XS.isub X0.here hexec rfl (hb hbytes d3) rfl ?_
    refine bipushV X0.here hexec rfl 31 (hb hbytes d4) (by decide) ?_
    refine iushr X0.here hexec rfl (hb hbytes d6) rfl ?_
    refine i2b X0.here hexec rfl (hb hbytes d7) rfl ?_
    exact Steps.refl _)
  have e0 : lo8 (ushr (Int32.ofNat B.slots.size - Int32.ofNat B.slots.size) 31) = 0 := by rw [Int32.sub_self]; decide
  rw [e0] at c3
  exact ⟨s₁, some (.int 0), _, _, _, X0, rfl, rfl, rfl, (fun h => by cases h), ⟨rfl, hh0⟩, fun fs hl => c3.trans (X0.ireturnOut hexec hret rfl (Or.inr (Or.inr (Or.inl rfl))) (hb hbytes d8) hl)⟩
end CodL
/-- the String at a is Latin-1 over a new byte[] (the heap's one new cell): the low bytes of the len chars of A from o on; every cell but a is kept -/
def Got (a : Addr) (D : Cell) (fV fC : Field) (A : Cell) (o len : Nat) (r : Option Value) (s u : State) : Prop := r = none ∧ ∃ D' V : Cell, Blank "java/lang/String" a D' u ∧ Same D D' [fV.slot, fC.slot] ∧ D'.slots[fV.slot]? = some (.ref s.heap.size) ∧ D'.slots[fC.slot]? = some (.int 0) ∧ Arr .byte s.heap.size V u ∧ V.vm = .none ∧ u.vm.findClass "[B" = some V.cls ∧ V.slots.size = len ∧ (∀ j, j < len → V.slots[j]? = some (.int (lo8 (cv A (o + j))))) ∧ (∀ (y : Addr) (c : Cell), y ≠ a → s.heap[y]? = some c → u.heap[y]? = some c) ∧ u.heap.size = s.heap.size + 1
theorem Got.mv {a : Addr} {D A : Cell} {fV fC : Field} {o len : Nat} : ∀ r (U U' V V' : State), U'.heap = U.heap → V.vm.Alike V'.vm → V'.heap = V.heap → Got a D fV fC A o len r U V → Got a D fV fC A o len r U' V' :=
  fun r U U' V V' h1 hal h2 ⟨e0, D', X, a1, a2, a3, a4, a5, a6, a7, a8, a9, a10, a11⟩ => ⟨e0, D', X, a1.mv hal h2, a2, by rw [h1]; exact a3, a4, by rw [h1]; exact a5.mv hal h2, a6, by rw [hal.findClass]; exact a7, a8, a9, by rw [h1, h2]; exact a10, by rw [h1, h2]; exact a11⟩
namespace New4
def yN : MethodName := ⟨"java/lang/String", "<init>", "([CIILjava/lang/Void;)V"⟩
abbrev yB : ByteArray := jdk_42_method_149_code
theorem d0 : decode yB 0 = .ok (.aload_n 0, 1) := by decide +kernel
theorem d1 : decode yB 1 = .ok (.invokespecial 1, 3) := by decide +kernel
theorem d4 : decode yB 4 = .ok (.iload_n 3, 1) := by decide +kernel
theorem d5 : decode yB 5 = .ok (.ifCond (.ne) 22, 3) := by decide +kernel
theorem d27 : decode yB 27 = .ok (.getstatic 38, 3) := by decide +kernel
theorem d30 : decode yB 30 = .ok (.ifCond (.eq) 28, 3) := by decide +kernel
theorem d33 : decode yB 33 = .ok (.aload_n 1, 1) := by decide +kernel
theorem d34 : decode yB 34 = .ok (.iload_n 2, 1) := by decide +kernel
theorem d35 : decode yB 35 = .ok (.iload_n 3, 1) := by decide +kernel
theorem d36 : decode yB 36 = .ok (.invokestatic 177, 3) := by decide +kernel
theorem d39 : decode yB 39 = .ok (.astore 5, 2) := by decide +kernel
theorem d41 : decode yB 41 = .ok (.aload_n 0, 1) := by decide +kernel
theorem d42 : decode yB 42 = .ok (.aload 5, 2) := by decide +kernel
theorem d44 : decode yB 44 = .ok (.iload_n 3, 1) := by decide +kernel
theorem d45 : decode yB 45 = .ok (.invokestatic 47, 3) := by decide +kernel
theorem d48 : decode yB 48 = .ok (.putfield 15, 3) := by decide +kernel
theorem d51 : decode yB 51 = .ok (.aload_n 0, 1) := by decide +kernel
theorem d52 : decode yB 52 = .ok (.aload 5, 2) := by decide +kernel
theorem d54 : decode yB 54 = .ok (.putfield 9, 3) := by decide +kernel
theorem d57 : decode yB 57 = .ok (.return_, 1) := by decide +kernel
def site : List Cond := [.fieldLink "java/lang/String" 38 "java/lang/String" "COMPACT_STRINGS" "Z", Cmp3.tab, CodL.tab, .laysFinal "java/lang/String" "java/lang/String" "value" "[B", .fieldLink "java/lang/String" 9 "java/lang/String" "value" "[B", .laysFinal "java/lang/String" "java/lang/String" "coder" "B", .fieldLink "java/lang/String" 15 "java/lang/String" "coder" "B"] ++ objW "java/lang/String" 1 ++ staticW "java/lang/String" 177 Cmp3.yN ++ staticW "java/lang/String" 47 CodL.yN
def tab : Cond := tabOf yN yB 6 none site
def P (a : Addr) (D : Cell) (fV fC : Field) (b : Addr) (A : Cell) (z : Int32) (o len : Nat) (args : Array Value) (s : State) : Prop := args = #[.ref a, .ref b, .int (Int32.ofNat o), .int (Int32.ofNat len), .null] ∧ Blank "java/lang/String" a D s ∧ Found "java/lang/String" "value" "[B" fV s ∧ Found "java/lang/String" "coder" "B" fC s ∧ Ch b A s ∧ StaticIs s "java/lang/String" "COMPACT_STRINGS" "Z" (.int z) ∧ ¬ z = 0 ∧ 0 < len ∧ o + len ≤ A.slots.size ∧ len ≤ 536870912 ∧ ∀ i, i < len → ¬ 255 < cv A (o + i)
def E (a : Addr) (D : Cell) (fV fC : Field) (A : Cell) (o len : Nat) (r : Option Value) (s u : State) : Prop := Got a D fV fC A o len r s u
/-- len > 0, no char of the range above 255: a Latin-1 String of their low bytes -/
theorem law (l : Launch) (a : Addr) (D : Cell) (fV fC : Field) (b : Addr) (A : Cell) (z : Int32) (o len : Nat) : Law l yN 5 4 2 35 yB 6 none site (P a D fV fC b A z o len) (E a D fV fC A o len) [⟨a, fC.slot⟩, ⟨a, fV.slot⟩] 1 len := by
  refine Law.of_walk (plainFor_of_name (by decide +kernel)) (by decide +kernel) (by decide +kernel) (by decide) (fun _ _ h => by rw [h.1]; rfl) (fun _ U U' hal hh h => ⟨h.1, h.2.1.mv hal hh, h.2.2.1.al hal, h.2.2.2.1.al hal, h.2.2.2.2.1.mv hal hh, h.2.2.2.2.2.1.there hal hh, h.2.2.2.2.2.2⟩) (fun r U U' V V' h1 hal h2 h => Got.mv r U U' V V' h1 hal h2 h) ?_
  intro p e s m args below meth c s₁ X0 hexec hbytes hml hret hlk hnm hown hh0 W hP
  obtain ⟨rfl, hB, f1, f2, hA, s1, hz, l0, l1, l2, hp⟩ := hP
  have a31 := hA.1.2.2.2
  have c1 : Steps p.tables e below (s₁.setTop (entryFrame m #[.ref a, .ref b, .int (Int32.ofNat o), .int (Int32.ofNat len), .null] 6)) (s₁.setTop (mkF m 0 #[.val (.ref a), .val (.ref b), .val (.int (Int32.ofNat o)), .val (.int (Int32.ofNat len)), .val .null, .unset] [])) := entry rfl
  have c2 : Steps p.tables e below (s₁.setTop (entryFrame m #[.ref a, .ref b, .int (Int32.ofNat o), .int (Int32.ofNat len), .null] 6)) (s₁.setTop (mkF m 1 #[.val (.ref a), .val (.ref b), .val (.int (Int32.ofNat o)), .val (.int (Int32.ofNat len)), .val .null, .unset] [.ref a])) := c1.trans (by
    refine XS.aloadN X0.here hexec rfl (hb hbytes d0) rfl rfl ?_
    exact Steps.refl _)
  obtain ⟨T3, X3, q3, st3⟩ := X0.oinit hexec hown (wks W (objW "java/lang/String" 1)) (g := (mkF m 1 #[.val (.ref a), .val (.ref b), .val (.int (Int32.ofNat o)), .val (.int (Int32.ofNat len)), .val .null, .unset] [.ref a])) rfl (by rw [hml]; rfl) (rest := []) rfl (hb hbytes d1) (W := 0) (by show 2 * 0 + 0 ≤ _; decide) (Nat.le_of_ble_eq_true rfl) (Nat.le_of_ble_eq_true rfl)
  have hh3 := q3.trans hh0
  have c4 : Steps p.tables e below (s₁.setTop (entryFrame m #[.ref a, .ref b, .int (Int32.ofNat o), .int (Int32.ofNat len), .null] 6)) (T3.setTop (mkF m 27 #[.val (.ref a), .val (.ref b), .val (.int (Int32.ofNat o)), .val (.int (Int32.ofNat len)), .val .null, .unset] [])) := (c2.trans (st3 _ (Steps.refl _))).trans (by
    refine XS.iloadN X3.here hexec rfl (hb hbytes d4) rfl ?_
    refine XS.ifYes X3.here hexec rfl (pc0 := 5) rfl (hb hbytes d5) rfl (i0_ne_t (nz32 (by omega) l0)) (by decide) rfl ?_
    exact Steps.refl _)
  obtain ⟨T5, X5, q5, st5⟩ := X3.sget hexec hown (wk W (.fieldLink "java/lang/String" 38 "java/lang/String" "COMPACT_STRINGS" "Z")) s1 (fun _ _ h => by rw [hh3]; exact h) (g := (mkF m 27 #[.val (.ref a), .val (.ref b), .val (.int (Int32.ofNat o)), .val (.int (Int32.ofNat len)), .val .null, .unset] [])) rfl (hb hbytes d27)
  have hh5 := q5.trans hh3
  have c6 : Steps p.tables e below (s₁.setTop (entryFrame m #[.ref a, .ref b, .int (Int32.ofNat o), .int (Int32.ofNat len), .null] 6)) (T5.setTop (mkF m 30 #[.val (.ref a), .val (.ref b), .val (.int (Int32.ofNat o)), .val (.int (Int32.ofNat len)), .val .null, .unset] [.int z])) := c4.trans (st5 _ (Steps.refl _))
  have c7 : Steps p.tables e below (s₁.setTop (entryFrame m #[.ref a, .ref b, .int (Int32.ofNat o), .int (Int32.ofNat len), .null] 6)) (T5.setTop (mkF m 36 #[.val (.ref a), .val (.ref b), .val (.int (Int32.ofNat o)), .val (.int (Int32.ofNat len)), .val .null, .unset] [.int (Int32.ofNat len), .int (Int32.ofNat o), .ref b])) := c6.trans (by
    refine XS.ifNo X5.here hexec rfl (hb hbytes d30) rfl (i0_eq_f hz) ?_
    refine XS.aloadN X5.here hexec rfl (hb hbytes d33) rfl rfl ?_
    refine XS.iloadN X5.here hexec rfl (hb hbytes d34) rfl ?_
    refine XS.iloadN X5.here hexec rfl (hb hbytes d35) rfl ?_
    exact Steps.refl _)
  obtain ⟨v8, T8, X8, E8, g8⟩ := X5.callS hexec (Cmp3.law l b A o len) hown (wks W (staticW "java/lang/String" 177 Cmp3.yN)) (wk W Cmp3.tab) (W := 0) (Nat.le_of_ble_eq_true rfl) (Nat.le_of_ble_eq_true rfl) (Nat.le_refl _) (by show 0 + len ≤ len; omega) (g := (mkF m 36 #[.val (.ref a), .val (.ref b), .val (.int (Int32.ofNat o)), .val (.int (Int32.ofNat len)), .val .null, .unset] [.int (Int32.ofNat len), .int (Int32.ofNat o), .ref b])) rfl (by rw [hml]; rfl) c7 (argsL := [.ref b, .int (Int32.ofNat o), .int (Int32.ofNat len)]) (rest := []) rfl rfl (by show 2 * 0 + 0 ≤ _; decide) (hb hbytes d36) (⟨rfl, hA.mv X5.warmed.alike hh5, l1, l2, hp⟩)
  obtain ⟨e8, z8⟩ := E8
  obtain ⟨rfl, N, n1, n2, n3, n4, n5, n6⟩ := NewArr.mv _ T5 s _ _ hh5.symm (Vm.Alike.refl _) rfl e8
  rw [hh5] at z8
  have hB1 := hB.keep X8.warmed.alike (n6 _ _ hB.1)
  have hne : s.heap.size ≠ a := (Nat.ne_of_lt (Array.getElem?_eq_some_iff.mp hB.1).1).symm
  have c9 : Steps p.tables e below (s₁.setTop (entryFrame m #[.ref a, .ref b, .int (Int32.ofNat o), .int (Int32.ofNat len), .null] 6)) (T8.setTop (mkF m 39 #[.val (.ref a), .val (.ref b), .val (.int (Int32.ofNat o)), .val (.int (Int32.ofNat len)), .val .null, .unset] [.ref s.heap.size])) := g8
  have c10 : Steps p.tables e below (s₁.setTop (entryFrame m #[.ref a, .ref b, .int (Int32.ofNat o), .int (Int32.ofNat len), .null] 6)) (T8.setTop (mkF m 45 #[.val (.ref a), .val (.ref b), .val (.int (Int32.ofNat o)), .val (.int (Int32.ofNat len)), .val .null, .val (.ref s.heap.size)] [.int (Int32.ofNat N.slots.size), .ref s.heap.size, .ref a])) := by
    have hc : Steps p.tables e below (s₁.setTop (entryFrame m #[.ref a, .ref b, .int (Int32.ofNat o), .int (Int32.ofNat len), .null] 6)) (T8.setTop (mkF m 45 #[.val (.ref a), .val (.ref b), .val (.int (Int32.ofNat o)), .val (.int (Int32.ofNat len)), .val .null, .val (.ref s.heap.size)] [.int (Int32.ofNat len), .ref s.heap.size, .ref a])) := c9.trans (by
      refine XS.astore X8.here hexec rfl (hb hbytes d39) rfl rfl rfl ?_
      refine XS.aloadN X8.here hexec rfl (hb hbytes d41) rfl rfl ?_
      refine XS.aload X8.here hexec rfl (hb hbytes d42) rfl rfl ?_
      refine XS.iloadN X8.here hexec rfl (hb hbytes d44) rfl ?_
      exact Steps.refl _)
    rw [n4]; exact hc
  obtain ⟨v11, T11, X11, E11, g11⟩ := X8.callS hexec (CodL.law l s.heap.size N) hown (wks W (staticW "java/lang/String" 47 CodL.yN)) (wk W CodL.tab) (W := 1) (Nat.le_of_ble_eq_true rfl) (Nat.le_of_ble_eq_true rfl) (Nat.le_refl _) (by show 0 + len + 0 ≤ len; omega) (g := (mkF m 45 #[.val (.ref a), .val (.ref b), .val (.int (Int32.ofNat o)), .val (.int (Int32.ofNat len)), .val .null, .val (.ref s.heap.size)] [.int (Int32.ofNat N.slots.size), .ref s.heap.size, .ref a])) rfl (by rw [hml]; rfl) c10 (argsL := [.ref s.heap.size, .int (Int32.ofNat N.slots.size)]) (rest := [.ref a]) rfl rfl (by show 2 * 0 + (1 + 0) ≤ _; decide) (hb hbytes d45) (⟨rfl, n1⟩)
  obtain ⟨rfl, q11⟩ := E11
  have hB11 := hB1.mv (X8.warmed.alike.symm.trans X11.warmed.alike) q11
  have c12 : Steps p.tables e below (s₁.setTop (entryFrame m #[.ref a, .ref b, .int (Int32.ofNat o), .int (Int32.ofNat len), .null] 6)) (T11.setTop (mkF m 48 #[.val (.ref a), .val (.ref b), .val (.int (Int32.ofNat o)), .val (.int (Int32.ofNat len)), .val .null, .val (.ref s.heap.size)] [.int 0, .ref a])) := g11
  obtain ⟨T13, X13, p13, bl13, sl13, st13⟩ := X11.finit hexec hown (wk W (.fieldLink "java/lang/String" 15 "java/lang/String" "coder" "B")) (Or.inr ⟨_, (wk W (.laysFinal "java/lang/String" "java/lang/String" "coder" "B"))⟩) (Or.inl ⟨rfl, hnm⟩) f2 (Or.inl rfl) hB11 (t := .byte) (by decide +kernel) rfl (g := (mkF m 48 #[.val (.ref a), .val (.ref b), .val (.int (Int32.ofNat o)), .val (.int (Int32.ofNat len)), .val .null, .val (.ref s.heap.size)] [.int 0, .ref a])) rfl (rest := []) rfl (hb hbytes d48)
  have c14 : Steps p.tables e below (s₁.setTop (entryFrame m #[.ref a, .ref b, .int (Int32.ofNat o), .int (Int32.ofNat len), .null] 6)) (T13.setTop (mkF m 54 #[.val (.ref a), .val (.ref b), .val (.int (Int32.ofNat o)), .val (.int (Int32.ofNat len)), .val .null, .val (.ref s.heap.size)] [.ref s.heap.size, .ref a])) := (c12.trans (st13 _ (Steps.refl _))).trans (by
    refine XS.aloadN X13.here hexec rfl (hb hbytes d51) rfl rfl ?_
    refine XS.aload X13.here hexec rfl (hb hbytes d52) rfl rfl ?_
    exact Steps.refl _)
  obtain ⟨T15, X15, p15, bl15, sl15, st15⟩ := X13.finit hexec hown (wk W (.fieldLink "java/lang/String" 9 "java/lang/String" "value" "[B")) (Or.inr ⟨_, (wk W (.laysFinal "java/lang/String" "java/lang/String" "value" "[B"))⟩) (Or.inl ⟨rfl, hnm⟩) f1 (Or.inl rfl) bl13 (t := (.array .byte)) (by decide +kernel) rfl (g := (mkF m 54 #[.val (.ref a), .val (.ref b), .val (.int (Int32.ofNat o)), .val (.int (Int32.ofNat len)), .val .null, .val (.ref s.heap.size)] [.ref s.heap.size, .ref a])) rfl (rest := []) rfl (hb hbytes d54)
  have c16 : Steps p.tables e below (s₁.setTop (entryFrame m #[.ref a, .ref b, .int (Int32.ofNat o), .int (Int32.ofNat len), .null] 6)) (T15.setTop (mkF m 57 #[.val (.ref a), .val (.ref b), .val (.int (Int32.ofNat o)), .val (.int (Int32.ofNat len)), .val .null, .val (.ref s.heap.size)] [])) := c14.trans (st15 _ (Steps.refl _))
  have ap := apart (Or.inr ⟨_, (wk W (.laysFinal "java/lang/String" "java/lang/String" "value" "[B"))⟩) (Or.inr ⟨_, (wk W (.laysFinal "java/lang/String" "java/lang/String" "coder" "B"))⟩) f1 f2 (t₁ := .array .byte) (t₂ := .byte) (by decide +kernel) (by decide +kernel) (by decide)
  have al := X8.warmed.alike.symm.trans X15.warmed.alike
  have n7 : T11.heap[s.heap.size]? = some N := by rw [q11]; exact n1.1
  exact ⟨T15, none, _, _, _, X15, by simp, rfl, by omega, (fun _ => rfl), ⟨rfl, _, N, bl15, ((Same.refl D _).set _ (by simp)).set _ (by simp), sl15, (Cell.slots_setSlot_ne _ ap).trans sl13, n1.keep al (p15.other hne (p13.other hne n7)), n2, by rw [al.findClass]; exact n3, n4, n5, fun y c h1 h2 => p15.other h1 (p13.other h1 (by rw [q11]; exact n6 y c h2)), by rw [p15.2.2, p13.2.2, q11]; exact z8⟩, fun fs hl => c16.trans (X15.returnOut hexec hret (hb hbytes d57) hl)⟩
end New4
namespace New1
def yN : MethodName := ⟨"java/lang/String", "<init>", "([C)V"⟩
abbrev yB : ByteArray := jdk_42_method_3_code
theorem d0 : decode yB 0 = .ok (.aload_n 0, 1) := by decide +kernel
theorem d1 : decode yB 1 = .ok (.aload_n 1, 1) := by decide +kernel
theorem d2 : decode yB 2 = .ok (.iconst 0, 1) := by decide +kernel
theorem d3 : decode yB 3 = .ok (.aload_n 1, 1) := by decide +kernel
theorem d4 : decode yB 4 = .ok (.arraylength, 1) := by decide +kernel
theorem d5 : decode yB 5 = .ok (.aconst_null, 1) := by decide +kernel
theorem d6 : decode yB 6 = .ok (.invokespecial 27, 3) := by decide +kernel
theorem d9 : decode yB 9 = .ok (.return_, 1) := by decide +kernel
def site : List Cond := [New4.tab] ++ initW "java/lang/String" 27 New4.yN
def tab : Cond := tabOf yN yB 2 none site
def P (a : Addr) (D : Cell) (fV fC : Field) (b : Addr) (A : Cell) (z : Int32) (args : Array Value) (s : State) : Prop := args = #[.ref a, .ref b] ∧ Blank "java/lang/String" a D s ∧ Found "java/lang/String" "value" "[B" fV s ∧ Found "java/lang/String" "coder" "B" fC s ∧ Ch b A s ∧ StaticIs s "java/lang/String" "COMPACT_STRINGS" "Z" (.int z) ∧ ¬ z = 0 ∧ 0 < A.slots.size ∧ A.slots.size ≤ 536870912 ∧ ∀ i, i < A.slots.size → ¬ 255 < cv A i
def E (a : Addr) (D : Cell) (fV fC : Field) (A : Cell) (r : Option Value) (s u : State) : Prop := Got a D fV fC A 0 A.slots.size r s u
/-- new String(chars), not empty, no char above 255: a Latin-1 String of their low bytes -/
theorem law (l : Launch) (a : Addr) (D : Cell) (fV fC : Field) (b : Addr) (A : Cell) (z : Int32) : Law l yN 2 1 3 52 yB 2 none site (P a D fV fC b A z) (E a D fV fC A) [⟨a, fC.slot⟩, ⟨a, fV.slot⟩] 1 A.slots.size := by
  refine Law.of_walk (plainFor_of_name (by decide +kernel)) (by decide +kernel) (by decide +kernel) (by decide) (fun _ _ h => by rw [h.1]; rfl) (fun _ U U' hal hh h => ⟨h.1, h.2.1.mv hal hh, h.2.2.1.al hal, h.2.2.2.1.al hal, h.2.2.2.2.1.mv hal hh, h.2.2.2.2.2.1.there hal hh, h.2.2.2.2.2.2⟩) (fun r U U' V V' h1 hal h2 h => Got.mv r U U' V V' h1 hal h2 h) ?_
  intro p e s m args below meth c s₁ X0 hexec hbytes hml hret hlk hnm hown hh0 W hP
  obtain ⟨rfl, hB, f1, f2, hA, s1, hz, l0, l2, hp⟩ := hP
  have c1 : Steps p.tables e below (s₁.setTop (entryFrame m #[.ref a, .ref b] 2)) (s₁.setTop (mkF m 0 #[.val (.ref a), .val (.ref b)] [])) := entry rfl
  have c2 : Steps p.tables e below (s₁.setTop (entryFrame m #[.ref a, .ref b] 2)) (s₁.setTop (mkF m 6 #[.val (.ref a), .val (.ref b)] [.null, .int (Int32.ofNat A.slots.size), .int 0, .ref b, .ref a])) := c1.trans (by
    refine XS.aloadN X0.here hexec rfl (hb hbytes d0) rfl rfl ?_
    refine XS.aloadN X0.here hexec rfl (hb hbytes d1) rfl rfl ?_
    refine iconstV X0.here hexec rfl 0 (hb hbytes d2) (by decide) ?_
    refine XS.aloadN X0.here hexec rfl (hb hbytes d3) rfl rfl ?_
    refine X0.alen hexec (hA.1.mv X0.warmed.alike hh0) rfl rfl (hb hbytes d4) ?_
    refine XS.aconstNull X0.here hexec rfl (hb hbytes d5) ?_
    exact Steps.refl _)
  obtain ⟨v3, T3, X3, E3, g3⟩ := X0.callN hexec (New4.law l a D fV fC b A z 0 A.slots.size) rfl hown (wks W (initW "java/lang/String" 27 New4.yN)) (W New4.tab (by simp only [site, List.mem_cons, List.mem_append, true_or, or_true])) (W := 0) (Nat.le_of_ble_eq_true rfl) (Nat.le_of_ble_eq_true rfl) (Nat.le_refl _) (by show 0 + A.slots.size ≤ A.slots.size; omega) (g := (mkF m 6 #[.val (.ref a), .val (.ref b)] [.null, .int (Int32.ofNat A.slots.size), .int (Int32.ofNat 0), .ref b, .ref a])) rfl (by rw [hml]; rfl) c2 (argsL := [.ref b, .int (Int32.ofNat 0), .int (Int32.ofNat A.slots.size), .null]) (rest := []) rfl rfl (by show 2 * 0 + 0 ≤ _; decide) (hb hbytes d6) (⟨rfl, hB.mv X0.warmed.alike hh0, f1.al X0.warmed.alike, f2.al X0.warmed.alike, hA.mv X0.warmed.alike hh0, s1.there X0.warmed.alike hh0, hz, l0, by omega, l2, fun i hi => by rw [Nat.zero_add]; exact hp i hi⟩)
  have e0 := Got.mv _ s₁ s _ _ hh0.symm (Vm.Alike.refl _) rfl E3
  obtain rfl := e0.1
  have c4 : Steps p.tables e below (s₁.setTop (entryFrame m #[.ref a, .ref b] 2)) (T3.setTop (mkF m 9 #[.val (.ref a), .val (.ref b)] [])) := g3
  exact ⟨T3, none, _, _, _, X3, by simp, rfl, by omega, (fun _ => rfl), e0, fun fs hl => c4.trans (X3.returnOut hexec hret (hb hbytes d9) hl)⟩
theorem pays {l : Launch} {R : Room} {p : Program} {e : Env} {below : List Frame} {s : State} {sargs : Array Value} {len W : Nat} (a : Addr) (D : Cell) (fV fC : Field) (b : Addr) (A : Cell) (z : Int32) (htab : tab.before sargs s = true) (hfr : 4 ≤ R.frames) (hlo : W + 65 ≤ R.locals) :
    Back l R p e below s sargs yN len W (fun A₁ a₁ => A₁.cells + 1 ≤ R.cells ∧ A₁.slots + A.slots.size ≤ R.slots ∧ P a D fV fC b A z a₁ A₁.U) (fun A₁ _ v₁ B₁ => E a D fV fC A v₁ A₁.U B₁.U ∧ B₁.locs = A₁.locs ++ [⟨a, fC.slot⟩, ⟨a, fV.slot⟩] ∧ B₁.cells = A₁.cells + 1 ∧ B₁.slots = A₁.slots + A.slots.size) :=
  (law l a D fV fC b A z).pays htab hfr (by omega)
end New1
/-- the byte, read back as charAt reads it, is the char -/
theorem lo8_mask {x : Int32} (h0 : ¬ x < 0) (h1 : ¬ 255 < x) : lo8 x &&& 255 = x := by
  have t : ∀ k : Fin 256, lo8 (Int32.ofNat k.val) &&& 255 = Int32.ofNat k.val := by decide +kernel
  rw [Int32.lt_iff_toInt_lt] at h0 h1
  have e0 : (0 : Int32).toInt = 0 := rfl
  have e1 : (255 : Int32).toInt = 255 := rfl
  obtain ⟨k, hk⟩ : ∃ k : Nat, x.toInt = k := ⟨x.toInt.toNat, by omega⟩
  have hx : x = Int32.ofNat k := Int32.toInt_inj.mp (by rw [hk, Int32.toInt_ofNat_small (by omega)])
  rw [hx]
  exact t ⟨k, by omega⟩
end StrChars
namespace StrChars.Road
open Jvm Sem ClassFile Op Lib Jvm.Stand Jvm.Free Jvm.Free.XT
open Jvm.Lib.Cold (StaticIs)
abbrev ST : String := "java/lang/String"
/-- every table word that New1's law asks, flat -/
abbrev words : List Jvm.Cond := [.code New1.yN New1.yB 2 none, .initialized ST, .methodLink ST 27 New4.yN, .instanceMethod New4.yN,
  .code New4.yN New4.yB 6 none, .fieldLink ST 38 ST "COMPACT_STRINGS" "Z", .laysFinal ST ST "value" "[B", .fieldLink ST 9 ST "value" "[B", .laysFinal ST ST "coder" "B", .fieldLink ST 15 ST "coder" "B",
  .methodLink ST 1 Lib.objectInit, .instanceMethod Lib.objectInit, .code Lib.objectInit ⟨#[0xb1]⟩ 1 none, .methodLink ST 177 Cmp3.yN, .static Cmp3.yN, .methodLink ST 47 CodL.yN, .static CodL.yN,
  .code Cmp3.yN Cmp3.yB 6 (some (.array .byte)), .initialized U16, .arrayClass .byte, .methodLink U16 115 Cmp5.yN, .static Cmp5.yN, .code Cmp5.yN Cmp5.yB 7 (some .int), .code CodL.yN CodL.yB 2 (some .byte)]
theorem tab_of {a : Array Value} {s : State} (h : ∀ w ∈ words, w.before a s = true) : New1.tab.before a s = true := by
  have h5 : Cmp5.tab.before a s = true := unparts (wk h (.code Cmp5.yN Cmp5.yB 7 (some .int))) (wks h (.initialized Cmp5.yN.cls :: Cmp5.site))
  have hc : CodL.tab.before a s = true := unparts (wk h (.code CodL.yN CodL.yB 2 (some .byte))) (wks h (.initialized CodL.yN.cls :: CodL.site))
  have q5 : ∀ w ∈ Cmp5.tab :: words, w.before a s = true := fun w hw => (List.mem_cons.mp hw).elim (fun e => e ▸ h5) (h w)
  have h3 : Cmp3.tab.before a s = true := unparts (wk q5 (.code Cmp3.yN Cmp3.yB 6 (some (.array .byte)))) (wks q5 (.initialized Cmp3.yN.cls :: Cmp3.site))
  have q3 : ∀ w ∈ Cmp3.tab :: CodL.tab :: words, w.before a s = true := fun w hw => (List.mem_cons.mp hw).elim (fun e => e ▸ h3) fun hw => (List.mem_cons.mp hw).elim (fun e => e ▸ hc) (h w)
  have h4 : New4.tab.before a s = true := unparts (wk q3 (.code New4.yN New4.yB 6 none)) (wks q3 (.initialized New4.yN.cls :: New4.site))
  have q4 : ∀ w ∈ New4.tab :: words, w.before a s = true := fun w hw => (List.mem_cons.mp hw).elim (fun e => e ▸ h4) (h w)
  exact unparts (wk q4 (.code New1.yN New1.yB 2 none)) (wks q4 (.initialized New1.yN.cls :: New1.site))
/-- the words ride from the start Z to the walk's own state -/
theorem moved {Z s : State} {a0 args : Array Value} (hZ : Z.Warmed39 s.vm) (hw : ∀ d ∈ words, d.before a0 Z = true) : ∀ d ∈ words, d.before args s = true := fun d hd => by
  have q := hw d hd
  have t : ∀ d ∈ words, d = .arrayClass .byte ∨ (d.onTables && d.keepsFace) = true := by decide +kernel
  rcases t d hd with rfl | t
  · exact RoadKit.mvA hZ q
  · exact RoadKit.mv hZ q t
/-- WHAT COMES BACK, over the tables of the start Z: h the heap at the call, h' behind it -/
def Q (Z : State) (x : Addr) (A : Cell) (h : Heap) (v : Option Value) (h' : Heap) (L : List Loc) : Prop := v = none ∧ (∀ y ∈ L, y.base = x) ∧ RoadKit.Keep h h' [x] ∧ h'.size = h.size + 1 ∧ RoadKit.Exa Z h' x ST ∧ RoadKit.Fld Z h' x ST "value" "[B" (.ref h.size) ∧ RoadKit.Fld Z h' x ST "coder" "B" (.int 0) ∧
  (∃ V : Cell, RoadKit.Arr Z h' h.size V .byte ∧ V.vm = .none ∧ Z.vm.findClass "[B" = some V.cls ∧ V.slots.size = A.slots.size ∧ ∀ j, j < A.slots.size → V.slots[j]? = some (.int (lo8 (cv A j)))) ∧
  ∀ (O n d : String) (w : Value), RoadKit.Fld Z h x O n d w → RoadKit.slotOf Z O n d ≠ RoadKit.slotOf Z ST "value" "[B" → RoadKit.slotOf Z O n d ≠ RoadKit.slotOf Z ST "coder" "B" → RoadKit.Fld Z h' x O n d w
/-- **new String(chars) AT A CALL, IN THE ROAD'S FORM**: for specialBack behind newO: x the fresh String, b the char[] with the cell A -/
theorem back {p : Program} {l : Launch} {e : Env} {R : Room} {s : State} {args : Array Value} {below : List Frame} {len W : Nat} {Z : State} {a0 : Array Value} {h : Heap} (hZ : Z.Warmed39 s.vm) (hw : ∀ d ∈ words, d.before a0 Z = true) {kI : Nat} (wi : (Jvm.Cond.instantiable ST kI).before a0 Z = true)
    {x b : Addr} {A : Cell} {z : Int32} {v0 c0 : Value} (E : RoadKit.Exa Z h x ST) (V : RoadKit.Fld Z h x ST "value" "[B" v0) (C : RoadKit.Fld Z h x ST "coder" "B" c0) (K : RoadKit.Arr Z h b A .char) (hty : Typed .char A) (S : RoadKit.Sta Z h ST "COMPACT_STRINGS" "Z" (.int z)) (hz : ¬ z = 0)
    (l0 : 0 < A.slots.size) (l2 : A.slots.size ≤ 536870912) (hp : ∀ i, i < A.slots.size → ¬ 255 < cv A i) (hfr : 4 ≤ R.frames) (hlo : W + 65 ≤ R.locals) :
    Back l R p e below s args New1.yN len W (fun P a => a = #[.ref x, .ref b] ∧ P.U.heap = h ∧ P.cells + 1 ≤ R.cells ∧ P.slots + A.slots.size ≤ R.slots)
      (fun P _ v B => ∃ L, Q Z x A h v B.U.heap L ∧ B.locs = P.locs ++ L ∧ B.cells = P.cells + 1 ∧ B.slots = P.slots + A.slots.size) := by
  intro m meth c P g ig mk a X hg hsize hdg hW hn hp'
  obtain ⟨rfl, rfl, r1, r2⟩ := hp'
  have al : Z.vm.Alike P.U.vm := hZ.alike.trans X.warmed.alike
  obtain ⟨D, cfV, kV, iV, fV, hD, gV, stV, knV, obV, asV, slV⟩ := id V
  obtain ⟨D', cfC, kC, iC, fC, hD', gC, stC, -, -, asC, slC⟩ := id C
  cases hD.symm.trans hD'
  obtain ⟨D2, kD, e1, e2, e3, e4, e5⟩ := id E
  cases hD.symm.trans e1
  obtain ⟨c2, k2, i1, i2, i3, -⟩ := Cond.instantiable_spec wi
  cases e2.symm.trans i1
  cases e3.symm.trans i2
  obtain ⟨kU, u1, u2⟩ := al.2.2 _ _ e3
  have hB : Blank ST x D P.U := ⟨hD, ⟨knV, fun q hq => by rw [hq] at obV; cases obV⟩, by rw [al.findClass]; exact e2, kU, u1, by rw [u2]; exact i3, by rw [u2]; exact e5 i3⟩
  have F1 : Found ST "value" "[B" fV P.U := ⟨SBG.found_only al ⟨cfV, kV, iV, gV⟩, stV⟩
  have F2 : Found ST "coder" "B" fC P.U := ⟨SBG.found_only al ⟨cfC, kC, iC, gC⟩, stC⟩
  have hA : Ch b A P.U := ⟨⟨K.1, State.isArrayOf_alike al K.2.1, K.2.2, by omega⟩, hty⟩
  have hS : StaticIs P.U ST "COMPACT_STRINGS" "Z" (.int z) := by
    obtain ⟨cfS, iS, kS, fS, st, cS, t1, t2, t3, t4, t5, t6, t7⟩ := S
    exact StaticIs.there (s := { Z with heap := P.U.heap }) ⟨cfS, iS, kS, fS, st, cS, t1, t2, t3, t4, t5, (fun q => by rw [q] at t6; cases t6), t7⟩ al rfl
  obtain ⟨v, B, X', ⟨⟨hv, E', V', q1, q2, q3, q4, q5, q6, q7, q8, q9, q10, q11⟩, hl, hc, hs⟩, st⟩ := New1.pays x D fV fC b A z (tab_of (moved hZ hw)) hfr hlo m meth c P g ig mk _ X hg hsize hdg hW hn ⟨r1, r2, rfl, hB, F1, F2, hA, hS, hz, l0, l2, hp⟩
  have al' : Z.vm.Alike B.U.vm := hZ.alike.trans X'.warmed.alike
  have hsz : E'.slots.size = D.slots.size := by
    obtain ⟨-, -, -, kB, w1, w2, w3⟩ := q1
    obtain ⟨kB', y1, y2⟩ := al'.2.2 _ _ e3
    rw [q2.2.1] at w1
    cases w1.symm.trans y1
    rw [w3, e5 i3, y2]
  refine ⟨v, B, X', ⟨_, ⟨hv, ?_, ⟨by omega, fun y cy hy hn' => q10 y cy (by simpa using hn') hy, fun y cy hy => ?_⟩, q11, ⟨E', _, q1.1, by rw [q2.2.1]; exact e2, by rw [q2.2.1]; exact e3, by rw [q2.1]; exact obV, fun _ => by rw [hsz]; exact e5 i3⟩,
    ⟨E', cfV, kV, iV, fV, q1.1, gV, stV, by rw [q2.1]; exact knV, by rw [q2.1]; exact obV, by rw [q2.2.1]; exact asV, q3⟩, ⟨E', cfC, kC, iC, fC, q1.1, gC, stC, by rw [q2.1]; exact knV, by rw [q2.1]; exact obV, by rw [q2.2.1]; exact asC, q4⟩,
    ⟨V', ⟨q5.1, State.isArrayOf_alike al'.symm q5.2.1, q5.2.2.1⟩, q6, by rw [← al'.findClass]; exact q7, q8, fun j hj => by have := q9 j hj; rwa [Nat.zero_add] at this⟩, fun O n d w F n1 n2 => ?_⟩, hl, hc, hs⟩, st⟩
  · intro y hy
    simp only [List.mem_cons, List.not_mem_nil, or_false] at hy
    rcases hy with rfl | rfl <;> rfl
  · by_cases q : y = x
    · subst q
      cases hD.symm.trans hy
      exact ⟨E', q1.1, q2.2.1, q2.1, hsz⟩
    · exact ⟨cy, q10 y cy q hy, rfl, rfl, rfl⟩
  · obtain ⟨D3, cf, k, i, f, g1, g2, g3, g4, g5, g6, g7⟩ := F
    cases hD.symm.trans g1
    simp only [RoadKit.slotOf, g2, gV, gC, Option.map_some, Option.getD_some] at n1 n2
    exact ⟨E', cf, k, i, f, q1.1, g2, g3, by rw [q2.1]; exact g4, by rw [q2.1]; exact g5, by rw [q2.2.1]; exact g6, by rw [q2.2.2 f.slot (by simp [n1, n2])]; exact g7⟩
end StrChars.Road
namespace StrChars.Road
open Jvm Sem ClassFile Op Lib Jvm.Stand Jvm.Free Jvm.Free.XT
/-- WHAT COMES BACK, the byte[] as a list of values -/
def QA (Z : State) (x : Addr) (zn : Int32) (cs : List Int32) (h : Heap) (v : Option Value) (h' : Heap) (L : List Loc) : Prop := v = none ∧ (∀ y ∈ L, y.base = x) ∧ RoadKit.Keep h h' [x] ∧ h'.size = h.size + 1 ∧ RoadKit.Exa Z h' x ST ∧ RoadKit.Fld Z h' x ST "value" "[B" (.ref h.size) ∧ RoadKit.Fld Z h' x ST "coder" "B" (.int 0) ∧
  (∃ kb, Z.vm.findClass "[B" = some kb ∧ RoadKit.Arv Z h' h.size kb .byte zn (cs.map fun c => .int (lo8 c)) (.int 0)) ∧
  ∀ (O n d : String) (w : Value), RoadKit.Fld Z h x O n d w → RoadKit.slotOf Z O n d ≠ RoadKit.slotOf Z ST "value" "[B" → RoadKit.slotOf Z O n d ≠ RoadKit.slotOf Z ST "coder" "B" → RoadKit.Fld Z h' x O n d w
/-- **new String(chars) AT A CALL, THE ARRAYS AS LISTS**: the char[] at b holds cs, not empty, no char above 255 -/
theorem backArv {p : Program} {l : Launch} {e : Env} {R : Room} {s : State} {args : Array Value} {below : List Frame} {len W : Nat} {Z : State} {a0 : Array Value} {h : Heap} (hZ : Z.Warmed39 s.vm) (hw : ∀ d ∈ words, d.before a0 Z = true) {kI : Nat} (wi : (Jvm.Cond.instantiable ST kI).before a0 Z = true)
    {x b : Addr} {k : ClassId} {zn z : Int32} {cs : List Int32} {dv v0 c0 : Value} (E : RoadKit.Exa Z h x ST) (V : RoadKit.Fld Z h x ST "value" "[B" v0) (C : RoadKit.Fld Z h x ST "coder" "B" c0) (K : RoadKit.Arv Z h b k .char zn (cs.map Value.int) dv) (S : RoadKit.Sta Z h ST "COMPACT_STRINGS" "Z" (.int z)) (hz : ¬ z = 0)
    (hlen : zn.toNatClampNeg = cs.length) (h0 : 0 < cs.length) (hbig : cs.length ≤ 536870912) (hall : ∀ c ∈ cs, ¬ 255 < c) (hfr : 4 ≤ R.frames) (hlo : W + 65 ≤ R.locals) :
    Back l R p e below s args New1.yN len W (fun P a => a = #[.ref x, .ref b] ∧ P.U.heap = h ∧ P.cells + 1 ≤ R.cells ∧ P.slots + cs.length ≤ R.slots)
      (fun P _ v B => ∃ L, QA Z x zn cs h v B.U.heap L ∧ B.locs = P.locs ++ L ∧ B.cells = P.cells + 1 ∧ B.slots = P.slots + cs.length) := by
  obtain ⟨A, K1, K2, K3, K4, K5, K6⟩ := K
  have e : A.slots.size = cs.length := K3.trans hlen
  have hat : ∀ (i : Nat) (hi : i < cs.length), A.slots[i]? = some (.int cs[i]) := fun i hi => by rw [K5 i (by omega)]; simp [List.getD_eq_getElem?_getD, hi]
  have hcv : ∀ (i : Nat) (hi : i < cs.length), cv A i = cs[i] := fun i hi => by unfold cv; rw [hat i hi]
  have hty : Typed .char A := fun i v hv => by
    have hi : i < A.slots.size := (Array.getElem?_eq_some_iff.mp hv).1
    have q := K5 i hi
    rw [hv] at q
    rw [Option.some.inj q]
    exact K6 i hi
  refine Back.mono (back hZ hw wi E V C K1 hty S hz (by omega) (by omega) (fun i hi => by rw [hcv i (by omega)]; exact hall _ (List.getElem_mem _)) hfr hlo) (fun P a hp => ⟨hp.1, hp.2.1, hp.2.2.1, by rw [e]; exact hp.2.2.2⟩) (fun P a v B hp hq => ?_)
  obtain ⟨L, ⟨q1, q2, q3, q4, q5, q6, q7, ⟨V', v1, v2, v3, v4, v5⟩, q9⟩, hl, hc, hs⟩ := hq
  refine ⟨L, ⟨q1, q2, q3, q4, q5, q6, q7, ⟨V'.cls, v3, V', v1, rfl, by rw [v4, e, hlen], K4, fun i hi => ?_, fun i hi => ?_⟩, q9⟩, hl, hc, by rw [hs, e]⟩
  · have hi' : i < cs.length := by omega
    rw [v5 i (by omega), hcv i hi']; simp [List.getD_eq_getElem?_getD, hi']
  · have hi' : i < cs.length := by omega
    simp only [List.getD_eq_getElem?_getD, List.getElem?_map, List.getElem?_eq_getElem hi', Option.map_some, Option.getD_some]
    exact fits_lo8 _
end StrChars.Road
namespace StrChars.Road
open Jvm Sem ClassFile Op Lib Jvm.Stand Jvm.Free Jvm.Free.XT
/-- WHAT COMES BACK, in the writer's own shape -/
def QV (Z : State) (x : Addr) (N : Int32) (bs : List Int32) (h : Heap) (n0 : Nat) (v : Option Value) (h' : Heap) (L : List Loc) : Prop := v = none ∧ RoadKit.Fr n0 L ∧ RoadKit.Keep h h' [x] ∧ RoadKit.Exa Z h' x ST ∧ RoadKit.Fld Z h' x ST "coder" "B" (.int 0) ∧
  ∃ (t : Addr) (kb : ClassId), n0 ≤ t ∧ h.size ≤ t ∧ ¬ t = x ∧ RoadKit.Fld Z h' x ST "value" "[B" (.ref t) ∧ RoadKit.Arv Z h' t kb .byte N (bs.map Value.int) (.int 0)
/-- **new String(chars) AT A CALL, FOR THE WRITER**: a char[] of n known ints, each 0 to 255 -/
theorem backV {p : Program} {l : Launch} {e : Env} {R : Room} {s : State} {args : Array Value} {below : List Frame} {len W : Nat} {Z : State} {a0 : Array Value} {h : Heap} (hZ : Z.Warmed39 s.vm) (hw : ∀ d ∈ words, d.before a0 Z = true) {kI : Nat} (wi : (Jvm.Cond.instantiable ST kI).before a0 Z = true)
    {x b : Addr} {kC : ClassId} {cs bs : List Int32} {d v0 c0 : Value} {z N : Int32} {n n0 : Nat} (hx0 : n0 ≤ x) (hh0 : n0 ≤ h.size) (E : RoadKit.Exa Z h x ST) (V : RoadKit.Fld Z h x ST "value" "[B" v0) (C : RoadKit.Fld Z h x ST "coder" "B" c0) (K : RoadKit.Arv Z h b kC .char N (cs.map Value.int) d) (S : RoadKit.Sta Z h ST "COMPACT_STRINGS" "Z" (.int z)) (hz : ¬ z = 0)
    (hn : cs.length = n) (hN : N = Int32.ofNat n) (l0 : 0 < n) (l2 : n ≤ 4000) (hp : ∀ c ∈ cs, ¬ c < 0 ∧ ¬ (255 : Int32) < c) (hb : bs = cs.map (fun c => c.toInt8.toInt32)) (hfr : 4 ≤ R.frames) (hlo : W + 65 ≤ R.locals) :
    Back l R p e below s args (⟨"java/lang/String", "<init>", "([C)V"⟩ : MethodName) len W (fun P a => a = #[.ref x, .ref b] ∧ P.U.heap = h ∧ P.cells + 1 ≤ R.cells ∧ P.slots + n ≤ R.slots)
      (fun P _ v B => ∃ L, QV Z x N bs h n0 v B.U.heap L ∧ B.locs = P.locs ++ L ∧ B.cells = P.cells + 1 ∧ B.slots = P.slots + n) := by
  subst hn hN hb
  refine Back.mono (backArv hZ hw wi E V C K S hz (n32 (by omega)) l0 (by omega) (fun c hc => (hp c hc).2) hfr hlo) (fun P a hp => hp) (fun P a v B hp hq => ?_)
  obtain ⟨L, ⟨q1, q2, q3, q4, q5, q6, q7, ⟨kb, v1, v2⟩, q9⟩, hl, hc, hs⟩ := hq
  exact ⟨L, ⟨q1, fun y hy => by rw [q2 y hy]; exact hx0, q3, q5, q7, h.size, kb, hh0, Nat.le_refl _, Nat.ne_of_gt E.lt, q6, by rw [List.map_map]; exact v2⟩, hl, hc, hs⟩
end StrChars.Road
namespace StrChars
open Jvm Sem ClassFile Op Lib Jvm.Stand Jvm.Free.XT Jvm.Free.ALB Jvm.Free.JM Jvm.Free
open Jvm.Lib.Cold (StaticIs)
def hi8 (x : Int32) : Int32 := lo8 (x >>> ((8 : Int32) &&& 31))
/-- what StringUTF16.getChar makes of two bytes -/
def pairCh (u v : Int32) : Int32 := (((u &&& 255) <<< ((0 : Int32) &&& 31)) ||| ((v &&& 255) <<< ((8 : Int32) &&& 31))).toUInt32.toUInt16.toUInt32.toInt32
theorem shr0 (c : Int32) : c >>> ((0 : Int32) &&& 31) = c := by
  have e : ((0 : Int32) &&& 31) = 0 := by decide
  rw [e]
  apply Int32.toBitVec_inj.mp
  rw [Int32.toBitVec_shiftRight]
  have e1 : ((0 : Int32).toBitVec.smod 32) = 0#32 := by decide
  rw [e1, BitVec.sshiftRight_eq']
  exact BitVec.sshiftRight_zero
theorem lo8_and (x : Int32) : (lo8 x &&& 255).toBitVec.toNat = x.toBitVec.toNat % 256 := by
  have h : (lo8 x).toBitVec = (x.toBitVec.signExtend 8).signExtend 32 := by rw [lo8, Int8.toBitVec_toInt32, Int32.toBitVec_toInt8]
  rw [Int32.toBitVec_and, BitVec.toNat_and, h]
  have e : ((x.toBitVec.signExtend 8).signExtend 32).toNat % 256 = x.toBitVec.toNat % 256 := by
    rw [BitVec.toNat_signExtend]
    have hlt := x.toBitVec.isLt
    simp only [BitVec.toNat_setWidth, BitVec.toNat_signExtend]
    split <;> split <;> omega
  rw [← e]
  exact Nat.and_two_pow_sub_one_eq_mod _ 8
theorem pair_says {c : Int32} (h0 : ¬ c < 0) (h1 : ¬ 65535 < c) : pairCh (lo8 c) (hi8 c) = c := by
  rw [Int32.lt_iff_toInt_lt] at h0 h1
  have e0 : (0 : Int32).toInt = 0 := rfl
  have e1 : (65535 : Int32).toInt = 65535 := rfl
  have hc : c.toInt = c.toBitVec.toNat := by
    have := c.toBitVec.isLt
    have e : c.toInt = c.toBitVec.toInt := rfl
    rw [e] at h0 h1
    rw [e]
    rw [BitVec.toInt_eq_toNat_cond] at h0 h1 ⊢
    split at h0 <;> split <;> omega
  have hn : c.toBitVec.toNat < 65536 := by omega
  have a1 := lo8_and c
  have a2 : (hi8 c &&& 255).toBitVec.toNat = c.toBitVec.toNat / 256 := by
    rw [hi8, lo8_and]
    have e : ((8 : Int32) &&& 31) = 8 := by decide
    rw [e, Int32.toBitVec_shiftRight]
    have e2 : ((8 : Int32).toBitVec.smod 32) = 8#32 := by decide
    rw [e2, BitVec.sshiftRight_eq', BitVec.toNat_sshiftRight_of_msb_false (by rw [BitVec.msb_eq_false_iff_two_mul_lt]; omega)]
    show c.toBitVec.toNat >>> 8 % 256 = _
    rw [Nat.shiftRight_eq_div_pow]
    omega
  unfold pairCh
  apply Int32.toBitVec_inj.mp
  apply BitVec.eq_of_toNat_eq
  have f0 : ((0 : Int32) &&& 31) = 0 := by decide
  have f8 : ((8 : Int32) &&& 31) = 8 := by decide
  rw [f0, f8]
  have g : (((lo8 c &&& 255) <<< (0 : Int32)) ||| ((hi8 c &&& 255) <<< (8 : Int32))).toBitVec.toNat = c.toBitVec.toNat := by
    rw [Int32.toBitVec_or, Int32.toBitVec_shiftLeft, Int32.toBitVec_shiftLeft]
    have s0 : ((0 : Int32).toBitVec.smod 32) = 0#32 := by decide
    have s8 : ((8 : Int32).toBitVec.smod 32) = 8#32 := by decide
    rw [s0, s8, BitVec.toNat_or]
    simp only [BitVec.shiftLeft_eq', BitVec.toNat_shiftLeft, a1, a2]
    show (c.toBitVec.toNat % 256) <<< 0 % 2 ^ 32 ||| (c.toBitVec.toNat / 256) <<< 8 % 2 ^ 32 = _
    rw [Nat.shiftLeft_zero, Nat.mod_eq_of_lt (show c.toBitVec.toNat % 256 < 2 ^ 32 by omega), Nat.mod_eq_of_lt (show (c.toBitVec.toNat / 256) <<< 8 < 2 ^ 32 by rw [Nat.shiftLeft_eq]; omega), Nat.or_comm, ← Nat.shiftLeft_add_eq_or_of_lt (by omega), Nat.shiftLeft_eq]
    omega
  show BitVec.toNat (((((lo8 c &&& 255) <<< (0 : Int32)) ||| ((hi8 c &&& 255) <<< (8 : Int32))).toBitVec.setWidth 16).setWidth 32) = _
  rw [BitVec.toNat_setWidth, BitVec.toNat_setWidth, g]
  omega
end StrChars
namespace StrChars
open Jvm Sem ClassFile Op Lib Jvm.Stand Jvm.Free.XT Jvm.Free.ALB Jvm.Free.JM Jvm.Free
open Jvm.Lib.Cold (StaticIs)
theorem shr1 {n : Nat} (h : 2 * n < 2 ^ 31) : Int32.ofNat (2 * n) >>> ((1 : Int32) &&& 31) = Int32.ofNat n := by
  have e : ((1 : Int32) &&& 31) = 1 := by decide
  rw [e]
  apply Int32.toBitVec_inj.mp
  rw [Int32.toBitVec_shiftRight]
  have e1 : ((1 : Int32).toBitVec.smod 32) = 1#32 := by decide
  have hm : (BitVec.ofNat 32 (2 * n)).toNat = 2 * n := by rw [BitVec.toNat_ofNat, Nat.mod_eq_of_lt (by omega)]
  rw [e1, BitVec.sshiftRight_eq']
  apply BitVec.eq_of_toNat_eq
  show ((BitVec.ofNat 32 (2 * n)).sshiftRight 1).toNat = (BitVec.ofNat 32 n).toNat
  rw [BitVec.toNat_sshiftRight_of_msb_false (by rw [BitVec.msb_eq_false_iff_two_mul_lt, hm]; omega), hm, BitVec.toNat_ofNat, Nat.shiftRight_eq_div_pow]
  omega
/-- charAt's cast of a byte read back -/
def chr8 (u : Int32) : Int32 := (u &&& 255).toUInt32.toUInt16.toUInt32.toInt32
theorem chr8_lo8 {c : Int32} (h0 : ¬ c < 0) (h1 : ¬ 255 < c) : chr8 (lo8 c) = c := by
  have t : ∀ k : Fin 256, (Int32.ofNat k.val).toUInt32.toUInt16.toUInt32.toInt32 = Int32.ofNat k.val := by decide +kernel
  unfold chr8
  rw [lo8_mask h0 h1]
  rw [Int32.lt_iff_toInt_lt] at h0 h1
  have e0 : (0 : Int32).toInt = 0 := rfl
  have e1 : (255 : Int32).toInt = 255 := rfl
  obtain ⟨k, hk⟩ : ∃ k : Nat, c.toInt = k := ⟨c.toInt.toNat, by omega⟩
  have hx : c = Int32.ofNat k := Int32.toInt_inj.mp (by rw [hk, Int32.toInt_ofNat_small (by omega)])
  rw [hx]
  exact t ⟨k, by omega⟩
theorem narrow_ch {c : Int32} (h0 : ¬ c < 0) (h1 : ¬ 65535 < c) : narrow .char (.int c) = .int c := by
  have q : narrow .char (.int (pairCh (lo8 c) (hi8 c))) = .int (pairCh (lo8 c) (hi8 c)) := narrow_c _
  rwa [pair_says h0 h1] at q
/-- the array's cell V codes the n chars f 0 .. f (n - 1) by the coder cd, as the JDK does: coder 1 just where some char is above 255 -/
def Cod (cd : Int32) (n : Nat) (f : Nat → Int32) (V : Cell) : Prop := (cd = 0 ∧ V.slots.size = n ∧ ∀ j, j < n → V.slots[j]? = some (.int (lo8 (f j))) ∧ ¬ 255 < f j) ∨ (cd = 1 ∧ V.slots.size = 2 * n ∧ (∀ j, j < n → V.slots[2 * j]? = some (.int (lo8 (f j))) ∧ V.slots[2 * j + 1]? = some (.int (hi8 (f j)))) ∧ ∃ j, j < n ∧ 255 < f j)
theorem Cod.cd {cd : Int32} {n : Nat} {f : Nat → Int32} {V : Cell} (h : Cod cd n f V) : cd = 0 ∨ cd = 1 := h.imp (fun q => q.1) fun q => q.1
theorem Cod.len {cd : Int32} {n : Nat} {f : Nat → Int32} {V : Cell} (h : Cod cd n f V) (hs : V.slots.size < 2 ^ 31) : Int32.ofNat V.slots.size >>> (cd &&& 31) = Int32.ofNat n := by
  rcases h with ⟨rfl, h, -⟩ | ⟨rfl, h, -⟩
  · rw [shr0, h]
  · rw [h, shr1 (by omega)]
/-- **x is a String of the n chars f 0 .. f (n - 1)**, Latin-1 or UTF-16; its array at t has the cell V -/
def Txt (x t : Addr) (V : Cell) (cd : Int32) (n : Nat) (f : Nat → Int32) (U : State) : Prop := Exact "java/lang/String" x U ∧ Has x "java/lang/String" "value" "[B" (.ref t) U ∧ Has x "java/lang/String" "coder" "B" (.int cd) U ∧ XT.Arr .byte t V U ∧ Cod cd n f V ∧ ∀ j, j < n → ¬ f j < 0 ∧ ¬ 65535 < f j
theorem Txt.mv {x t : Addr} {V : Cell} {cd : Int32} {n : Nat} {f : Nat → Int32} {U U' : State} (h : Txt x t V cd n f U) (hal : U.vm.Alike U'.vm) (hh : U'.heap = U.heap) : Txt x t V cd n f U' := ⟨h.1.mv hal hh, h.2.1.mv hal hh, h.2.2.1.mv hal hh, h.2.2.2.1.mv hal hh, h.2.2.2.2⟩
namespace Cdr
def yN : MethodName := ⟨"java/lang/String", "coder", "()B"⟩
abbrev yB : ByteArray := jdk_42_method_152_code
theorem d0 : decode yB 0 = .ok (.getstatic 38, 3) := by decide +kernel
theorem d3 : decode yB 3 = .ok (.ifCond (.eq) 10, 3) := by decide +kernel
theorem d6 : decode yB 6 = .ok (.aload_n 0, 1) := by decide +kernel
theorem d7 : decode yB 7 = .ok (.getfield 15, 3) := by decide +kernel
theorem d10 : decode yB 10 = .ok (.goto 4, 3) := by decide +kernel
theorem d14 : decode yB 14 = .ok (.ireturn, 1) := by decide +kernel
def site : List Cond := [.fieldLink "java/lang/String" 38 "java/lang/String" "COMPACT_STRINGS" "Z", .fieldLink "java/lang/String" 15 "java/lang/String" "coder" "B"]
def tab : Cond := tabOf yN yB 1 (some .byte) site
def P (x : Addr) (cd z : Int32) (args : Array Value) (s : State) : Prop := args = #[.ref x] ∧ Has x "java/lang/String" "coder" "B" (.int cd) s ∧ (cd = 0 ∨ cd = 1) ∧ StaticIs s "java/lang/String" "COMPACT_STRINGS" "Z" (.int z) ∧ ¬ z = 0
def E (cd : Int32) (r : Option Value) (s u : State) : Prop := XT.PureE (some (.int cd)) r s u
theorem law (l : Launch) (x : Addr) (cd z : Int32) : Law l yN 1 0 0 0 yB 1 (some .byte) site (P x cd z) (E cd) [] 0 0 := by
  refine Law.of_walk (plainFor_of_name (by decide +kernel)) (by decide +kernel) (by decide +kernel) (by decide) (fun _ _ h => by rw [h.1]; rfl) (fun _ U U' hal hh h => ⟨h.1, h.2.1.mv hal hh, h.2.2.1, h.2.2.2.1.there hal hh, h.2.2.2.2⟩) (fun r U U' V V' h1 hal h2 h => XT.PureE.mv r U U' V V' h1 hal h2 h) ?_
  intro p e s m args below meth c s₁ X0 hexec hbytes hml hret hlk hnm hown hh0 W hP
  obtain ⟨rfl, hx, hc, s1, hz⟩ := hP
  have c1 : Steps p.tables e below (s₁.setTop (entryFrame m #[.ref x] 1)) (s₁.setTop (mkF m 0 #[.val (.ref x)] [])) := entry rfl
  obtain ⟨T2, X2, q2, st2⟩ := X0.sget hexec hown (wk W (.fieldLink "java/lang/String" 38 "java/lang/String" "COMPACT_STRINGS" "Z")) s1 (fun _ _ h => by rw [hh0]; exact h) (g := (mkF m 0 #[.val (.ref x)] [])) rfl (hb hbytes d0)
  have hh2 := q2.trans hh0
  have c3 : Steps p.tables e below (s₁.setTop (entryFrame m #[.ref x] 1)) (T2.setTop (mkF m 7 #[.val (.ref x)] [.ref x])) := (c1.trans (st2 _ (Steps.refl _))).trans (by
    refine XS.ifNo X2.here hexec rfl (hb hbytes d3) rfl (i0_eq_f hz) ?_
    refine XS.aloadN X2.here hexec rfl (hb hbytes d6) rfl rfl ?_
    exact Steps.refl _)
  obtain ⟨T4, X4, q4, st4⟩ := X2.hget hexec hown (wk W (.fieldLink "java/lang/String" 15 "java/lang/String" "coder" "B")) (hx.mv X2.warmed.alike hh2) (g := (mkF m 7 #[.val (.ref x)] [.ref x])) rfl (rest := []) rfl (hb hbytes d7)
  have c5 : Steps p.tables e below (s₁.setTop (entryFrame m #[.ref x] 1)) (T4.setTop (mkF m 14 #[.val (.ref x)] [.int cd])) := (c3.trans (st4 _ (Steps.refl _))).trans (by
    refine XS.goto X4.here hexec rfl (pc0 := 10) rfl (hb hbytes d10) (by decide) rfl ?_
    exact Steps.refl _)
  exact ⟨T4, some (.int cd), _, _, _, X4, rfl, rfl, rfl, (fun h => by cases h), ⟨rfl, q4.trans hh2⟩, fun fs hl => c5.trans (X4.ireturnOut hexec hret (by rcases hc with rfl | rfl <;> rfl) (Or.inr (Or.inr (Or.inl rfl))) (hb hbytes d14) hl)⟩
end Cdr
namespace Len
def yN : MethodName := ⟨"java/lang/String", "length", "()I"⟩
abbrev yB : ByteArray := jdk_42_method_54_code
theorem d0 : decode yB 0 = .ok (.aload_n 0, 1) := by decide +kernel
theorem d1 : decode yB 1 = .ok (.getfield 9, 3) := by decide +kernel
theorem d4 : decode yB 4 = .ok (.arraylength, 1) := by decide +kernel
theorem d5 : decode yB 5 = .ok (.aload_n 0, 1) := by decide +kernel
theorem d6 : decode yB 6 = .ok (.invokevirtual 335, 3) := by decide +kernel
theorem d9 : decode yB 9 = .ok (.ishr, 1) := by decide +kernel
theorem d10 : decode yB 10 = .ok (.ireturn, 1) := by decide +kernel
def site : List Cond := [.fieldLink "java/lang/String" 9 "java/lang/String" "value" "[B", Cdr.tab] ++ virtW "java/lang/String" 335 "java/lang/String" Cdr.yN Cdr.yN
def tab : Cond := tabOf yN yB 1 (some .int) site
def P (x t : Addr) (V : Cell) (cd : Int32) (n : Nat) (f : Nat → Int32) (z : Int32) (args : Array Value) (s : State) : Prop := args = #[.ref x] ∧ Txt x t V cd n f s ∧ StaticIs s "java/lang/String" "COMPACT_STRINGS" "Z" (.int z) ∧ ¬ z = 0
def E (n : Nat) (r : Option Value) (s u : State) : Prop := XT.PureE (some (.int (Int32.ofNat n))) r s u
/-- length() of a String of n chars, in either coding -/
theorem law (l : Launch) (x t : Addr) (V : Cell) (cd : Int32) (n : Nat) (f : Nat → Int32) (z : Int32) : Law l yN 1 0 1 13 yB 1 (some .int) site (P x t V cd n f z) (E n) [] 0 0 := by
  refine Law.of_walk (plainFor_of_name (by decide +kernel)) (by decide +kernel) (by decide +kernel) (by decide) (fun _ _ h => by rw [h.1]; rfl) (fun _ U U' hal hh h => ⟨h.1, h.2.1.mv hal hh, h.2.2.1.there hal hh, h.2.2.2⟩) (fun r U U' V V' h1 hal h2 h => XT.PureE.mv r U U' V V' h1 hal h2 h) ?_
  intro p e s m args below meth c s₁ X0 hexec hbytes hml hret hlk hnm hown hh0 W hP
  obtain ⟨rfl, hx, s1, hz⟩ := hP
  have v31 := hx.2.2.2.1.2.2.2
  have c1 : Steps p.tables e below (s₁.setTop (entryFrame m #[.ref x] 1)) (s₁.setTop (mkF m 1 #[.val (.ref x)] [.ref x])) := Steps.trans (entry rfl) (by
    show Steps p.tables e below (s₁.setTop (mkF m 0 #[.val (.ref x)] [])) _
    refine XS.aloadN X0.here hexec rfl (hb hbytes d0) rfl rfl ?_
    exact Steps.refl _)
  obtain ⟨T2, X2, q2, st2⟩ := X0.hget hexec hown (wk W (.fieldLink "java/lang/String" 9 "java/lang/String" "value" "[B")) (hx.mv X0.warmed.alike hh0).2.1 (g := (mkF m 1 #[.val (.ref x)] [.ref x])) rfl (rest := []) rfl (hb hbytes d1)
  have hh2 := q2.trans hh0
  have hx2 := hx.mv X2.warmed.alike hh2
  have c3 : Steps p.tables e below (s₁.setTop (entryFrame m #[.ref x] 1)) (T2.setTop (mkF m 6 #[.val (.ref x)] [.ref x, .int (Int32.ofNat V.slots.size)])) := (c1.trans (st2 _ (Steps.refl _))).trans (by
    refine X2.alen hexec hx2.2.2.2.1 rfl rfl (hb hbytes d4) ?_
    refine XS.aloadN X2.here hexec rfl (hb hbytes d5) rfl rfl ?_
    exact Steps.refl _)
  obtain ⟨v4, T4, X4, E4, g4⟩ := X2.callV hexec (Cdr.law l x cd z) hown (wks W (virtW "java/lang/String" 335 "java/lang/String" Cdr.yN Cdr.yN)) rfl (by decide) (wk W Cdr.tab) (W := 1) (Nat.le_of_ble_eq_true rfl) (Nat.le_of_ble_eq_true rfl) (Nat.le_refl _) (Nat.le_refl _) (hx2.1.fc X2.warmed.alike) hx2.1.is (g := (mkF m 6 #[.val (.ref x)] [.ref x, .int (Int32.ofNat V.slots.size)])) rfl (by rw [hml]; rfl) c3 (argsL := []) (rest := [.int (Int32.ofNat V.slots.size)]) rfl rfl (by show 2 * 0 + (1 + 0) ≤ _; decide) (hb hbytes d6) (⟨rfl, hx2.2.2.1, hx.2.2.2.2.1.cd, s1.there X2.warmed.alike hh2, hz⟩)
  obtain ⟨rfl, q4⟩ := E4
  have c5 : Steps p.tables e below (s₁.setTop (entryFrame m #[.ref x] 1)) (T4.setTop (mkF m 10 #[.val (.ref x)] [.int (Int32.ofNat V.slots.size >>> (cd &&& 31))])) := Steps.trans g4 (by
    refine ishr X4.here hexec rfl (hb hbytes d9) rfl ?_
    exact Steps.refl _)
  rw [hx.2.2.2.2.1.len v31] at c5
  exact ⟨T4, some (.int (Int32.ofNat n)), _, _, _, X4, rfl, rfl, rfl, (fun h => by cases h), ⟨rfl, q4.trans hh2⟩, fun fs hl => c5.trans (X4.ireturnOut hexec hret rfl (Or.inl rfl) (hb hbytes d10) hl)⟩
theorem pays {l : Launch} {R : Room} {p : Program} {e : Env} {below : List Frame} {s : State} {sargs : Array Value} {len W : Nat} (x t : Addr) (V : Cell) (cd : Int32) (n : Nat) (f : Nat → Int32) (z : Int32) (htab : tab.before sargs s = true) (hfr : 2 ≤ R.frames) (hlo : W + 25 ≤ R.locals) :
    Back l R p e below s sargs yN len W (fun A₁ a₁ => A₁.cells + 0 ≤ R.cells ∧ A₁.slots + 0 ≤ R.slots ∧ P x t V cd n f z a₁ A₁.U) (fun A₁ _ v₁ B₁ => E n v₁ A₁.U B₁.U ∧ B₁.locs = A₁.locs ++ [] ∧ B₁.cells = A₁.cells + 0 ∧ B₁.slots = A₁.slots + 0) :=
  (law l x t V cd n f z).pays htab hfr (by omega)
end Len
namespace IsL
def yN : MethodName := ⟨"java/lang/String", "isLatin1", "()Z"⟩
abbrev yB : ByteArray := jdk_42_method_154_code
theorem d0 : decode yB 0 = .ok (.getstatic 38, 3) := by decide +kernel
theorem d3 : decode yB 3 = .ok (.ifCond (.eq) 14, 3) := by decide +kernel
theorem d6 : decode yB 6 = .ok (.aload_n 0, 1) := by decide +kernel
theorem d7 : decode yB 7 = .ok (.getfield 15, 3) := by decide +kernel
theorem d10 : decode yB 10 = .ok (.ifCond (.ne) 7, 3) := by decide +kernel
theorem d13 : decode yB 13 = .ok (.iconst 1, 1) := by decide +kernel
theorem d14 : decode yB 14 = .ok (.goto 4, 3) := by decide +kernel
theorem d17 : decode yB 17 = .ok (.iconst 0, 1) := by decide +kernel
theorem d18 : decode yB 18 = .ok (.ireturn, 1) := by decide +kernel
def site : List Cond := [.fieldLink "java/lang/String" 38 "java/lang/String" "COMPACT_STRINGS" "Z", .fieldLink "java/lang/String" 15 "java/lang/String" "coder" "B"]
def tab : Cond := tabOf yN yB 1 (some .boolean) site
def P (x : Addr) (cd z : Int32) (args : Array Value) (s : State) : Prop := args = #[.ref x] ∧ Has x "java/lang/String" "coder" "B" (.int cd) s ∧ (cd = 0 ∨ cd = 1) ∧ StaticIs s "java/lang/String" "COMPACT_STRINGS" "Z" (.int z) ∧ ¬ z = 0
def E (cd : Int32) (r : Option Value) (s u : State) : Prop := XT.PureE (some (.int (1 - cd))) r s u
theorem law (l : Launch) (x : Addr) (cd z : Int32) : Law l yN 1 0 0 0 yB 1 (some .boolean) site (P x cd z) (E cd) [] 0 0 := by
  refine Law.of_walk (plainFor_of_name (by decide +kernel)) (by decide +kernel) (by decide +kernel) (by decide) (fun _ _ h => by rw [h.1]; rfl) (fun _ U U' hal hh h => ⟨h.1, h.2.1.mv hal hh, h.2.2.1, h.2.2.2.1.there hal hh, h.2.2.2.2⟩) (fun r U U' V V' h1 hal h2 h => XT.PureE.mv r U U' V V' h1 hal h2 h) ?_
  intro p e s m args below meth c s₁ X0 hexec hbytes hml hret hlk hnm hown hh0 W hP
  obtain ⟨rfl, hx, hc, s1, hz⟩ := hP
  have c1 : Steps p.tables e below (s₁.setTop (entryFrame m #[.ref x] 1)) (s₁.setTop (mkF m 0 #[.val (.ref x)] [])) := entry rfl
  obtain ⟨T2, X2, q2, st2⟩ := X0.sget hexec hown (wk W (.fieldLink "java/lang/String" 38 "java/lang/String" "COMPACT_STRINGS" "Z")) s1 (fun _ _ h => by rw [hh0]; exact h) (g := (mkF m 0 #[.val (.ref x)] [])) rfl (hb hbytes d0)
  have hh2 := q2.trans hh0
  have c3 : Steps p.tables e below (s₁.setTop (entryFrame m #[.ref x] 1)) (T2.setTop (mkF m 7 #[.val (.ref x)] [.ref x])) := (c1.trans (st2 _ (Steps.refl _))).trans (by
    refine XS.ifNo X2.here hexec rfl (hb hbytes d3) rfl (i0_eq_f hz) ?_
    refine XS.aloadN X2.here hexec rfl (hb hbytes d6) rfl rfl ?_
    exact Steps.refl _)
  obtain ⟨T4, X4, q4, st4⟩ := X2.hget hexec hown (wk W (.fieldLink "java/lang/String" 15 "java/lang/String" "coder" "B")) (hx.mv X2.warmed.alike hh2) (g := (mkF m 7 #[.val (.ref x)] [.ref x])) rfl (rest := []) rfl (hb hbytes d7)
  have c5 : Steps p.tables e below (s₁.setTop (entryFrame m #[.ref x] 1)) (T4.setTop (mkF m 10 #[.val (.ref x)] [.int cd])) := c3.trans (st4 _ (Steps.refl _))
  have c6 : Steps p.tables e below (s₁.setTop (entryFrame m #[.ref x] 1)) (T4.setTop (mkF m 18 #[.val (.ref x)] [.int (1 - cd)])) := by
    rcases hc with rfl | rfl
    · exact c5.trans (by
        refine XS.ifNo X4.here hexec rfl (hb hbytes d10) rfl (i0_ne_f rfl) ?_
        refine iconstV X4.here hexec rfl 1 (hb hbytes d13) (by decide) ?_
        refine XS.goto X4.here hexec rfl (pc0 := 14) rfl (hb hbytes d14) (by decide) rfl ?_
        exact Steps.refl _)
    · exact c5.trans (by
        refine XS.ifYes X4.here hexec rfl (pc0 := 10) rfl (hb hbytes d10) rfl (i0_ne_t (by decide)) (by decide) rfl ?_
        refine iconstV X4.here hexec rfl 0 (hb hbytes d17) (by decide) ?_
        exact Steps.refl _)
  exact ⟨T4, some (.int (1 - cd)), _, _, _, X4, rfl, rfl, rfl, (fun h => by cases h), ⟨rfl, q4.trans hh2⟩, fun fs hl => c6.trans (X4.ireturnOut hexec hret (by rcases hc with rfl | rfl <;> rfl) (Or.inr (Or.inl rfl)) (hb hbytes d18) hl)⟩
end IsL
namespace LChA
def yN : MethodName := ⟨"java/lang/StringLatin1", "charAt", "([BI)C"⟩
abbrev yB : ByteArray := jdk_43_method_2_code
theorem d0 : decode yB 0 = .ok (.iload_n 1, 1) := by decide +kernel
theorem d1 : decode yB 1 = .ok (.aload_n 0, 1) := by decide +kernel
theorem d2 : decode yB 2 = .ok (.arraylength, 1) := by decide +kernel
theorem d3 : decode yB 3 = .ok (.invokestatic 9, 3) := by decide +kernel
theorem d6 : decode yB 6 = .ok (.aload_n 0, 1) := by decide +kernel
theorem d7 : decode yB 7 = .ok (.iload_n 1, 1) := by decide +kernel
theorem d8 : decode yB 8 = .ok (.baload, 1) := by decide +kernel
theorem d9 : decode yB 9 = .ok (.sipush 255, 3) := by decide +kernel
theorem d12 : decode yB 12 = .ok (.iand, 1) := by decide +kernel
theorem d13 : decode yB 13 = .ok (.i2c, 1) := by decide +kernel
theorem d14 : decode yB 14 = .ok (.ireturn, 1) := by decide +kernel
def site : List Cond := [JO.Str_checkIndex.tab] ++ staticW "java/lang/StringLatin1" 9 JO.Str_checkIndex.yN
def tab : Cond := tabOf yN yB 2 (some .char) site
def P (t : Addr) (V : Cell) (i : Nat) (u : Int32) (fm : Value) (args : Array Value) (s : State) : Prop := args = #[.ref t, .int (Int32.ofNat i)] ∧ XT.Arr .byte t V s ∧ V.slots[i]? = some (.int u) ∧ (StaticIs s "jdk/internal/util/Preconditions" "SIOOBE_FORMATTER" "Ljava/util/function/BiFunction;" fm ∧ fm.isRef = true)
def E (u : Int32) (r : Option Value) (s w : State) : Prop := XT.PureE (some (.int (chr8 u))) r s w
theorem law (l : Launch) (t : Addr) (V : Cell) (i : Nat) (u : Int32) (fm : Value) : Law l yN 2 2 2 27 yB 2 (some .char) site (P t V i u fm) (E u) [] 0 0 := by
  refine Law.of_walk (plainFor_of_name (by decide +kernel)) (by decide +kernel) (by decide +kernel) (by decide) (fun _ _ h => by rw [h.1]; rfl) (fun _ U U' hal hh h => ⟨h.1, h.2.1.mv hal hh, h.2.2.1, h.2.2.2.1.there hal hh, h.2.2.2.2⟩) (fun r U U' V V' h1 hal h2 h => XT.PureE.mv r U U' V V' h1 hal h2 h) ?_
  intro p e s m args below meth c s₁ X0 hexec hbytes hml hret hlk hnm hown hh0 W hP
  obtain ⟨rfl, hV, hu, s1, rf⟩ := hP
  have v31 := hV.2.2.2
  have hi : i < V.slots.size := (Array.getElem?_eq_some_iff.mp hu).1
  have c1 : Steps p.tables e below (s₁.setTop (entryFrame m #[.ref t, .int (Int32.ofNat i)] 2)) (s₁.setTop (mkF m 0 #[.val (.ref t), .val (.int (Int32.ofNat i))] [])) := entry rfl
  have c2 : Steps p.tables e below (s₁.setTop (entryFrame m #[.ref t, .int (Int32.ofNat i)] 2)) (s₁.setTop (mkF m 3 #[.val (.ref t), .val (.int (Int32.ofNat i))] [.int (Int32.ofNat V.slots.size), .int (Int32.ofNat i)])) := c1.trans (by
    refine XS.iloadN X0.here hexec rfl (hb hbytes d0) rfl ?_
    refine XS.aloadN X0.here hexec rfl (hb hbytes d1) rfl rfl ?_
    refine X0.alen hexec (hV.mv X0.warmed.alike hh0) rfl rfl (hb hbytes d2) ?_
    exact Steps.refl _)
  obtain ⟨v3, T3, X3, E3, g3⟩ := X0.callS hexec (JO.Str_checkIndex.law l (Int32.ofNat i) (Int32.ofNat V.slots.size) fm) hown (wks W (staticW "java/lang/StringLatin1" 9 JO.Str_checkIndex.yN)) (wk W JO.Str_checkIndex.tab) (W := 0) (Nat.le_of_ble_eq_true rfl) (Nat.le_of_ble_eq_true rfl) (Nat.le_refl _) (Nat.le_refl _) (g := (mkF m 3 #[.val (.ref t), .val (.int (Int32.ofNat i))] [.int (Int32.ofNat V.slots.size), .int (Int32.ofNat i)])) rfl (by rw [hml]; rfl) c2 (argsL := [.int (Int32.ofNat i), .int (Int32.ofNat V.slots.size)]) (rest := []) rfl rfl (by show 2 * 0 + 0 ≤ _; decide) (hb hbytes d3) (⟨rfl, rf, s1.there X0.warmed.alike hh0, Int32.ofNat_not_neg (by omega), lt32 v31 hi⟩)
  obtain ⟨rfl, q3⟩ := E3
  have hh3 := q3.trans hh0
  have c4 : Steps p.tables e below (s₁.setTop (entryFrame m #[.ref t, .int (Int32.ofNat i)] 2)) (T3.setTop (mkF m 14 #[.val (.ref t), .val (.int (Int32.ofNat i))] [.int (chr8 u)])) := Steps.trans g3 (by
    refine XS.aloadN X3.here hexec rfl (hb hbytes d6) rfl rfl ?_
    refine XS.iloadN X3.here hexec rfl (hb hbytes d7) rfl ?_
    refine X3.aget hexec (hV.mv X3.warmed.alike hh3) rfl hu rfl rfl (hb hbytes d8) ?_
    refine sipushV X3.here hexec rfl 255 (hb hbytes d9) (by decide) ?_
    refine XS.iand X3.here hexec rfl (hb hbytes d12) rfl ?_
    refine i2c X3.here hexec rfl (hb hbytes d13) rfl ?_
    exact Steps.refl _)
  exact ⟨T3, some (.int (chr8 u)), _, _, _, X3, rfl, rfl, rfl, (fun h => by cases h), ⟨rfl, hh3⟩, fun fs hl => c4.trans (X3.ireturnOut hexec hret (narrow_c _) (Or.inr (Or.inr (Or.inr (Or.inl rfl)))) (hb hbytes d14) hl)⟩
end LChA
end StrChars
namespace StrChars.Road
open Jvm Sem ClassFile Op Lib Jvm.Stand Jvm.Free Jvm.Free.XT
open Jvm.Lib.Cold (StaticIs)
theorem consq {a : Array Value} {s : State} {c : Jvm.Cond} {L : List Jvm.Cond} (h0 : c.before a s = true) (h : ∀ w ∈ L, w.before a s = true) : ∀ w ∈ c :: L, w.before a s = true := fun w hw => (List.mem_cons.mp hw).elim (fun e => e ▸ h0) (h w)
/-- the words of String.length(), either coding -/
abbrev wordsLen : List Jvm.Cond := [.code Len.yN Len.yB 1 (some .int), .initialized ST, .fieldLink ST 9 ST "value" "[B", .fieldLink ST 38 ST "COMPACT_STRINGS" "Z", .fieldLink ST 15 ST "coder" "B", .code Cdr.yN Cdr.yB 1 (some .byte), .methodLink ST 335 Cdr.yN, .declares Cdr.yN, .selects ST Cdr.yN Cdr.yN, .instanceMethod Cdr.yN]
theorem tabLen_of {a : Array Value} {s : State} (h : ∀ w ∈ wordsLen, w.before a s = true) : Len.tab.before a s = true := by
  have hc : Cdr.tab.before a s = true := unparts (wk h (.code Cdr.yN Cdr.yB 1 (some .byte))) (wks h (.initialized Cdr.yN.cls :: Cdr.site))
  have q := consq hc h
  exact unparts (wk q (.code Len.yN Len.yB 1 (some .int))) (wks q (.initialized Len.yN.cls :: Len.site))
theorem movedLen {Z s : State} {a0 args : Array Value} (hZ : Z.Warmed39 s.vm) (hw : ∀ d ∈ wordsLen, d.before a0 Z = true) : ∀ d ∈ wordsLen, d.before args s = true := fun d hd => by
  have q := hw d hd
  have t : ∀ d ∈ wordsLen, d = .arrayClass .byte ∨ (d.onTables && d.keepsFace) = true := by decide +kernel
  rcases t d hd with rfl | t
  · exact RoadKit.mvA hZ q
  · exact RoadKit.mv hZ q t
/-- the bytes of the chars cs, low before high -/
def wideBytes : List Int32 → List Value
  | [] => []
  | c :: cs => .int (lo8 c) :: .int (hi8 c) :: wideBytes cs
theorem wide_lo (d : Value) : ∀ (cs : List Int32) (j : Nat), j < cs.length → (wideBytes cs).getD (2 * j) d = .int (lo8 (cs.getD j 0))
  | [], j, h => absurd h (Nat.not_lt_zero j)
  | c :: cs, 0, _ => rfl
  | c :: cs, j + 1, h => by
    have q := wide_lo d cs j (by simpa using h)
    rw [show 2 * (j + 1) = 2 * j + 1 + 1 from by omega]
    simpa [wideBytes] using q
theorem wide_hi (d : Value) : ∀ (cs : List Int32) (j : Nat), j < cs.length → (wideBytes cs).getD (2 * j + 1) d = .int (hi8 (cs.getD j 0))
  | [], j, h => absurd h (Nat.not_lt_zero j)
  | c :: cs, 0, _ => rfl
  | c :: cs, j + 1, h => by
    have q := wide_hi d cs j (by simpa using h)
    rw [show 2 * (j + 1) + 1 = 2 * j + 1 + 1 + 1 from by omega]
    simpa [wideBytes] using q
theorem low_at (d : Value) (cs : List Int32) (j : Nat) (h : j < cs.length) : (cs.map fun c => Value.int (lo8 c)).getD j d = .int (lo8 (cs.getD j 0)) := by
  simp [List.getD_eq_getElem?_getD, h]
/-- an array of N2 bytes vs codes the chars cs by the coder cd -/
def CodA (cs : List Int32) (cd N2 : Int32) (vs : List Value) : Prop := (cd = 0 ∧ N2 = Int32.ofNat cs.length ∧ vs = (cs.map fun c => Value.int (lo8 c)) ∧ ∀ c ∈ cs, ¬ 255 < c) ∨ (cd = 1 ∧ N2 = Int32.ofNat (2 * cs.length) ∧ vs = wideBytes cs ∧ ∃ c ∈ cs, 255 < c)
theorem CodA.cod {cs : List Int32} {cd N2 : Int32} {vs : List Value} {V : Cell} (h : CodA cs cd N2 vs) (hn : 2 * cs.length < 2 ^ 31) (hs : V.slots.size = N2.toNatClampNeg) (hv : RoadKit.Has V vs (.int 0)) : Cod cd cs.length (fun j => cs.getD j 0) V := by
  rcases h with ⟨rfl, rfl, rfl, h⟩ | ⟨rfl, rfl, rfl, c, hc, hw⟩
  · rw [n32 (by omega)] at hs
    exact Or.inl ⟨rfl, hs, fun j hj => ⟨by rw [hv j (by omega), low_at _ _ _ hj], by
      have e : cs.getD j 0 = cs[j] := by simp [List.getD_eq_getElem?_getD, hj]
      show ¬ 255 < cs.getD j 0
      rw [e]; exact h _ (List.getElem_mem _)⟩⟩
  · rw [n32 (by omega)] at hs
    obtain ⟨j, hj, rfl⟩ := List.getElem_of_mem hc
    exact Or.inr ⟨rfl, hs, fun j hj => ⟨by rw [hv _ (by omega), wide_lo _ _ _ hj], by rw [hv _ (by omega), wide_hi _ _ _ hj]⟩, j, hj, by
      have e : cs.getD j 0 = cs[j] := by simp [List.getD_eq_getElem?_getD, hj]
      show 255 < cs.getD j 0
      rw [e]; exact hw⟩
/-- an object of exactly java/lang/String, its two fields found: as the laws ask it -/
theorem strObj {Z U : State} {a0 : Array Value} {kI : Nat} (wi : (Jvm.Cond.instantiable ST kI).before a0 Z = true) (al : Z.vm.Alike U.vm) {x : Addr} {v0 c0 : Value} (E : RoadKit.Exa Z U.heap x ST) (V : RoadKit.Fld Z U.heap x ST "value" "[B" v0) (C : RoadKit.Fld Z U.heap x ST "coder" "B" c0) :
    ∃ (D : Cell) (fV fC : Field), Blank ST x D U ∧ Found ST "value" "[B" fV U ∧ Found ST "coder" "B" fC U ∧ D.slots[fV.slot]? = some v0 ∧ D.slots[fC.slot]? = some c0 ∧ RoadKit.slotOf Z ST "value" "[B" = fV.slot ∧ RoadKit.slotOf Z ST "coder" "B" = fC.slot := by
  obtain ⟨D, cfV, kV, iV, fV, hD, gV, stV, knV, obV, asV, slV⟩ := V
  obtain ⟨D', cfC, kC, iC, fC, hD', gC, stC, -, -, asC, slC⟩ := C
  cases hD.symm.trans hD'
  obtain ⟨D2, kD, e1, e2, e3, e4, e5⟩ := E
  cases hD.symm.trans e1
  obtain ⟨c2, k2, i1, i2, i3, -⟩ := Cond.instantiable_spec wi
  cases e2.symm.trans i1
  cases e3.symm.trans i2
  obtain ⟨kU, u1, u2⟩ := al.2.2 _ _ e3
  exact ⟨D, fV, fC, ⟨hD, ⟨knV, fun q hq => by rw [hq] at obV; cases obV⟩, by rw [al.findClass]; exact e2, kU, u1, by rw [u2]; exact i3, by rw [u2]; exact e5 i3⟩, ⟨SBG.found_only al ⟨cfV, kV, iV, gV⟩, stV⟩, ⟨SBG.found_only al ⟨cfC, kC, iC, gC⟩, stC⟩, slV, slC, by simp [RoadKit.slotOf, gV], by simp [RoadKit.slotOf, gC]⟩
theorem sta_is {Z U : State} (al : Z.vm.Alike U.vm) {C n d : String} {v : Value} (S : RoadKit.Sta Z U.heap C n d v) : StaticIs U C n d v := by
  obtain ⟨cfS, iS, kS, fS, st, cS, t1, t2, t3, t4, t5, t6, t7⟩ := S
  exact StaticIs.there (s := { Z with heap := U.heap }) ⟨cfS, iS, kS, fS, st, cS, t1, t2, t3, t4, t5, (fun q => by rw [q] at t6; cases t6), t7⟩ al rfl
/-- **length() OF SUCH A STRING** -/
theorem lenW {p : Program} {l : Launch} {e : Env} {R : Room} {s : State} {args : Array Value} {below : List Frame} {len W : Nat} {Z : State} {a0 : Array Value} {h : Heap} (hZ : Z.Warmed39 s.vm) (hw : ∀ d ∈ wordsLen, d.before a0 Z = true) {kI : Nat} (wi : (Jvm.Cond.instantiable ST kI).before a0 Z = true)
    {x t : Addr} {kb : ClassId} {cs : List Int32} {cd N2 z : Int32} {vs : List Value} (E : RoadKit.Exa Z h x ST) (V : RoadKit.Fld Z h x ST "value" "[B" (.ref t)) (C : RoadKit.Fld Z h x ST "coder" "B" (.int cd)) (K : RoadKit.Arv Z h t kb .byte N2 vs (.int 0)) (hc : CodA cs cd N2 vs) (hb : ∀ c ∈ cs, ¬ c < 0 ∧ ¬ (65535 : Int32) < c)
    (S : RoadKit.Sta Z h ST "COMPACT_STRINGS" "Z" (.int z)) (hz : ¬ z = 0) (l2 : cs.length ≤ 4000) (hfr : 2 ≤ R.frames) (hlo : W + 25 ≤ R.locals) :
    Back l R p e below s args (⟨"java/lang/String", "length", "()I"⟩ : MethodName) len W (fun P a => a = #[.ref x] ∧ P.U.heap = h ∧ P.cells + 0 ≤ R.cells ∧ P.slots + 0 ≤ R.slots)
      (fun P _ v B => ∃ L, (v = some (.int (Int32.ofNat cs.length)) ∧ L = [] ∧ B.U.heap = h) ∧ B.locs = P.locs ++ L ∧ B.cells = P.cells + 0 ∧ B.slots = P.slots + 0) := by
  obtain ⟨A, K1, K2, K3, K4, K5, K6⟩ := K
  have hcod := hc.cod (by omega) K3 K5
  intro m meth c P g ig mk a X hg hsize hdg hW hn hp'
  obtain ⟨rfl, rfl, r1, r2⟩ := hp'
  have al : Z.vm.Alike P.U.vm := hZ.alike.trans X.warmed.alike
  obtain ⟨D, fV, fC, hB, F1, F2, g1, g2, -, -⟩ := strObj wi al E V C
  have hx : Txt x t A cd cs.length (fun j => cs.getD j 0) P.U := ⟨⟨_, hB.2.2.1, D, hB.1, rfl, by cases q : D.vm <;> first | rfl | exact absurd q (hB.2.1.2 _)⟩, Has.of hB F1 g1, Has.of hB F2 g2, ⟨K1.1, State.isArrayOf_alike al K1.2.1, K1.2.2, by rcases hcod with ⟨-, q, -⟩ | ⟨-, q, -⟩ <;> omega⟩, hcod, fun j hj => by
    have e : cs.getD j 0 = cs[j] := by simp [List.getD_eq_getElem?_getD, hj]
    show ¬ cs.getD j 0 < 0 ∧ ¬ 65535 < cs.getD j 0
    rw [e]; exact hb _ (List.getElem_mem _)⟩
  obtain ⟨v, B, X', ⟨⟨hv, hh⟩, hl, hk, hs⟩, st⟩ := Len.pays x t A cd cs.length (fun j => cs.getD j 0) z (tabLen_of (movedLen hZ hw)) hfr hlo m meth c P g ig mk _ X hg hsize hdg hW hn ⟨r1, r2, rfl, hx, sta_is al S, hz⟩
  exact ⟨v, B, X', ⟨[], ⟨hv, rfl, hh⟩, hl, hk, hs⟩, st⟩
end StrChars.Road
namespace StrChars.Road
open Jvm Sem ClassFile Op Lib Jvm.Stand Jvm.Free Jvm.Free.XT
open Jvm.Lib.Cold (StaticIs)
/-- the road's facts of a String, as the laws ask it -/
theorem txt_of {Z U : State} {a0 : Array Value} {kI : Nat} (wi : (Jvm.Cond.instantiable ST kI).before a0 Z = true) (al : Z.vm.Alike U.vm) {x t : Addr} {kb : ClassId} {cs : List Int32} {cd N2 : Int32} {vs : List Value} (E : RoadKit.Exa Z U.heap x ST) (V : RoadKit.Fld Z U.heap x ST "value" "[B" (.ref t)) (C : RoadKit.Fld Z U.heap x ST "coder" "B" (.int cd)) (K : RoadKit.Arv Z U.heap t kb .byte N2 vs (.int 0)) (hc : CodA cs cd N2 vs) (hb : ∀ c ∈ cs, ¬ c < 0 ∧ ¬ (65535 : Int32) < c) (l2 : cs.length ≤ 4000) :
    ∃ A, Txt x t A cd cs.length (fun j => cs.getD j 0) U := by
  obtain ⟨A, K1, K2, K3, K4, K5, K6⟩ := K
  have hcod := hc.cod (by omega) K3 K5
  obtain ⟨D, fV, fC, hB, F1, F2, g1, g2, -, -⟩ := strObj wi al E V C
  exact ⟨A, ⟨_, hB.2.2.1, D, hB.1, rfl, by cases q : D.vm <;> first | rfl | exact absurd q (hB.2.1.2 _)⟩, Has.of hB F1 g1, Has.of hB F2 g2, ⟨K1.1, State.isArrayOf_alike al K1.2.1, K1.2.2, by rcases hcod with ⟨-, q, -⟩ | ⟨-, q, -⟩ <;> omega⟩, hcod, fun j hj => by
    have e : cs.getD j 0 = cs[j] := by simp [List.getD_eq_getElem?_getD, hj]
    show ¬ cs.getD j 0 < 0 ∧ ¬ 65535 < cs.getD j 0
    rw [e]; exact hb _ (List.getElem_mem _)⟩
end StrChars.Road
namespace StrChars
open Jvm Sem ClassFile Op Lib Jvm.Stand Jvm.Free.XT Jvm.Free.ALB Jvm.Free.JM Jvm.Free
open Jvm.Lib.Cold (StaticIs)
namespace ChN
def yN : MethodName := ⟨"java/lang/String", "charAt", "(I)C"⟩
abbrev yB : ByteArray := jdk_42_method_56_code
theorem d0 : decode yB 0 = .ok (.aload_n 0, 1) := by decide +kernel
theorem d1 : decode yB 1 = .ok (.invokevirtual 492, 3) := by decide +kernel
theorem d4 : decode yB 4 = .ok (.ifCond (.eq) 12, 3) := by decide +kernel
theorem d7 : decode yB 7 = .ok (.aload_n 0, 1) := by decide +kernel
theorem d8 : decode yB 8 = .ok (.getfield 9, 3) := by decide +kernel
theorem d11 : decode yB 11 = .ok (.iload_n 1, 1) := by decide +kernel
theorem d12 : decode yB 12 = .ok (.invokestatic 495, 3) := by decide +kernel
theorem d15 : decode yB 15 = .ok (.ireturn, 1) := by decide +kernel
def site : List Cond := [.fieldLink "java/lang/String" 9 "java/lang/String" "value" "[B", IsL.tab, LChA.tab] ++ virtW "java/lang/String" 492 "java/lang/String" IsL.yN IsL.yN ++ staticW "java/lang/String" 495 LChA.yN
def tab : Cond := tabOf yN yB 2 (some .char) site
def P (x t : Addr) (V : Cell) (n : Nat) (f : Nat → Int32) (z : Int32) (fm : Value) (i : Nat) (args : Array Value) (s : State) : Prop := args = #[.ref x, .int (Int32.ofNat i)] ∧ Txt x t V 0 n f s ∧ i < n ∧ StaticIs s "java/lang/String" "COMPACT_STRINGS" "Z" (.int z) ∧ ¬ z = 0 ∧ StaticIs s "jdk/internal/util/Preconditions" "SIOOBE_FORMATTER" "Ljava/util/function/BiFunction;" fm ∧ fm.isRef = true
def E (f : Nat → Int32) (i : Nat) (r : Option Value) (s u : State) : Prop := XT.PureE (some (.int (f i))) r s u
/-- charAt(i) of a Latin-1 String of n chars, i < n: f i -/
theorem law (l : Launch) (x t : Addr) (V : Cell) (n : Nat) (f : Nat → Int32) (z : Int32) (fm : Value) (i : Nat) : Law l yN 2 1 3 40 yB 2 (some .char) site (P x t V n f z fm i) (E f i) [] 0 0 := by
  refine Law.of_walk (plainFor_of_name (by decide +kernel)) (by decide +kernel) (by decide +kernel) (by decide) (fun _ _ h => by rw [h.1]; rfl) (fun _ U U' hal hh h => ⟨h.1, h.2.1.mv hal hh, h.2.2.1, h.2.2.2.1.there hal hh, h.2.2.2.2.1, h.2.2.2.2.2.1.there hal hh, h.2.2.2.2.2.2⟩) (fun r U U' V V' h1 hal h2 h => XT.PureE.mv r U U' V V' h1 hal h2 h) ?_
  intro p e s m args below meth c s₁ X0 hexec hbytes hml hret hlk hnm hown hh0 W hP
  obtain ⟨rfl, hx, hi, s1, hz, s3, rf⟩ := hP
  have v31 := hx.2.2.2.1.2.2.2
  have hr := hx.2.2.2.2.2 i hi
  have hx0 := hx.mv X0.warmed.alike hh0
  have c1 : Steps p.tables e below (s₁.setTop (entryFrame m #[.ref x, .int (Int32.ofNat i)] 2)) (s₁.setTop (mkF m 1 #[.val (.ref x), .val (.int (Int32.ofNat i))] [.ref x])) := Steps.trans (entry rfl) (by
    show Steps p.tables e below (s₁.setTop (mkF m 0 #[.val (.ref x), .val (.int (Int32.ofNat i))] [])) _
    refine XS.aloadN X0.here hexec rfl (hb hbytes d0) rfl rfl ?_
    exact Steps.refl _)
  obtain ⟨v2, T2, X2, E2, g2⟩ := X0.callV hexec (IsL.law l x 0 z) hown (wks W (virtW "java/lang/String" 492 "java/lang/String" IsL.yN IsL.yN)) rfl (by decide) (wk W IsL.tab) (W := 0) (Nat.le_of_ble_eq_true rfl) (Nat.le_of_ble_eq_true rfl) (Nat.le_refl _) (Nat.le_refl _) (hx0.1.fc X0.warmed.alike) hx0.1.is (g := (mkF m 1 #[.val (.ref x), .val (.int (Int32.ofNat i))] [.ref x])) rfl (by rw [hml]; rfl) c1 (argsL := []) (rest := []) rfl rfl (by show 2 * 0 + 0 ≤ _; decide) (hb hbytes d1) (⟨rfl, hx0.2.2.1, hx.2.2.2.2.1.cd, s1.there X0.warmed.alike hh0, hz⟩)
  obtain ⟨rfl, q2⟩ := E2
  have hh2 := q2.trans hh0
  have hx2 := hx.mv X2.warmed.alike hh2
  obtain ⟨-, k1, k2⟩ | ⟨k0, -⟩ := hx.2.2.2.2.1
  · have c3 : Steps p.tables e below (s₁.setTop (entryFrame m #[.ref x, .int (Int32.ofNat i)] 2)) (T2.setTop (mkF m 8 #[.val (.ref x), .val (.int (Int32.ofNat i))] [.ref x])) := Steps.trans g2 (by
      refine XS.ifNo X2.here hexec rfl (hb hbytes d4) rfl (i0_eq_f (by decide)) ?_
      refine XS.aloadN X2.here hexec rfl (hb hbytes d7) rfl rfl ?_
      exact Steps.refl _)
    obtain ⟨T4, X4, q4, st4⟩ := X2.hget hexec hown (wk W (.fieldLink "java/lang/String" 9 "java/lang/String" "value" "[B")) hx2.2.1 (g := (mkF m 8 #[.val (.ref x), .val (.int (Int32.ofNat i))] [.ref x])) rfl (rest := []) rfl (hb hbytes d8)
    have hh4 := q4.trans hh2
    have c5 : Steps p.tables e below (s₁.setTop (entryFrame m #[.ref x, .int (Int32.ofNat i)] 2)) (T4.setTop (mkF m 12 #[.val (.ref x), .val (.int (Int32.ofNat i))] [.int (Int32.ofNat i), .ref t])) := (c3.trans (st4 _ (Steps.refl _))).trans (by
      refine XS.iloadN X4.here hexec rfl (hb hbytes d11) rfl ?_
      exact Steps.refl _)
    obtain ⟨v6, T6, X6, E6, g6⟩ := X4.callS hexec (LChA.law l t V i (lo8 (f i)) fm) hown (wks W (staticW "java/lang/String" 495 LChA.yN)) (wk W LChA.tab) (W := 0) (Nat.le_of_ble_eq_true rfl) (Nat.le_of_ble_eq_true rfl) (Nat.le_refl _) (Nat.le_refl _) (g := (mkF m 12 #[.val (.ref x), .val (.int (Int32.ofNat i))] [.int (Int32.ofNat i), .ref t])) rfl (by rw [hml]; rfl) c5 (argsL := [.ref t, .int (Int32.ofNat i)]) (rest := []) rfl rfl (by show 2 * 0 + 0 ≤ _; decide) (hb hbytes d12) (⟨rfl, hx.2.2.2.1.mv X4.warmed.alike hh4, (k2 i hi).1, s3.there X4.warmed.alike hh4, rf⟩)
    obtain ⟨rfl, q6⟩ := E6
    rw [chr8_lo8 hr.1 (k2 i hi).2] at g6
    exact ⟨T6, some (.int (f i)), _, _, _, X6, rfl, rfl, rfl, (fun h => by cases h), ⟨rfl, q6.trans hh4⟩, fun fs hl => Steps.trans g6 (X6.ireturnOut hexec hret (narrow_ch hr.1 hr.2) (Or.inr (Or.inr (Or.inr (Or.inl rfl)))) (hb hbytes d15) hl)⟩
  · exact absurd k0 (by decide)
theorem pays {l : Launch} {R : Room} {p : Program} {e : Env} {below : List Frame} {s : State} {sargs : Array Value} {len W : Nat} (x t : Addr) (V : Cell) (n : Nat) (f : Nat → Int32) (z : Int32) (fm : Value) (i : Nat) (htab : tab.before sargs s = true) (hfr : 4 ≤ R.frames) (hlo : W + 53 ≤ R.locals) :
    Back l R p e below s sargs yN len W (fun A₁ a₁ => A₁.cells + 0 ≤ R.cells ∧ A₁.slots + 0 ≤ R.slots ∧ P x t V n f z fm i a₁ A₁.U) (fun A₁ _ v₁ B₁ => E f i v₁ A₁.U B₁.U ∧ B₁.locs = A₁.locs ++ [] ∧ B₁.cells = A₁.cells + 0 ∧ B₁.slots = A₁.slots + 0) :=
  (law l x t V n f z fm i).pays htab hfr (by omega)
end ChN
end StrChars
namespace StrChars.Road
open Jvm Sem ClassFile Op Lib Jvm.Stand Jvm.Free Jvm.Free.XT
open Jvm.Lib.Cold (StaticIs)
/-- the words of String.charAt(int), the Latin-1 road alone -/
abbrev wordsChN : List Jvm.Cond := [.code ChN.yN ChN.yB 2 (some .char), .initialized ST, .fieldLink ST 9 ST "value" "[B", .fieldLink ST 38 ST "COMPACT_STRINGS" "Z", .fieldLink ST 15 ST "coder" "B", .code IsL.yN IsL.yB 1 (some .boolean), .methodLink ST 492 IsL.yN, .declares IsL.yN, .selects ST IsL.yN IsL.yN, .instanceMethod IsL.yN,
  .methodLink ST 495 LChA.yN, .static LChA.yN, .code LChA.yN LChA.yB 2 (some .char), .initialized "java/lang/StringLatin1", .methodLink "java/lang/StringLatin1" 9 JO.Str_checkIndex.yN, .static JO.Str_checkIndex.yN, .code JO.Str_checkIndex.yN JO.Str_checkIndex.yB 2 none,
  .fieldLink ST 1053 "jdk/internal/util/Preconditions" "SIOOBE_FORMATTER" "Ljava/util/function/BiFunction;", .methodLink ST 1059 JC.PreCheck.yN, .static JC.PreCheck.yN, .code JC.PreCheck.yN JC.PreCheck.yB 3 (some .int), .initialized "jdk/internal/util/Preconditions"]
theorem tabChN_of {a : Array Value} {s : State} (h : ∀ w ∈ wordsChN, w.before a s = true) : ChN.tab.before a s = true := by
  have hp : JC.PreCheck.tab.before a s = true := unparts (wk h (.code JC.PreCheck.yN JC.PreCheck.yB 3 (some .int))) (wks h (.initialized JC.PreCheck.yN.cls :: JC.PreCheck.site))
  have qk := consq hp h
  have hk : JO.Str_checkIndex.tab.before a s = true := unparts (wk qk (.code JO.Str_checkIndex.yN JO.Str_checkIndex.yB 2 none)) (wks qk (.initialized JO.Str_checkIndex.yN.cls :: JO.Str_checkIndex.site))
  have ql := consq hk h
  have hl : LChA.tab.before a s = true := unparts (wk ql (.code LChA.yN LChA.yB 2 (some .char))) (wks ql (.initialized LChA.yN.cls :: LChA.site))
  have hi : IsL.tab.before a s = true := unparts (wk h (.code IsL.yN IsL.yB 1 (some .boolean))) (wks h (.initialized IsL.yN.cls :: IsL.site))
  have q := consq hi (consq hl h)
  exact unparts (wk q (.code ChN.yN ChN.yB 2 (some .char))) (wks q (.initialized ChN.yN.cls :: ChN.site))
theorem movedChN {Z s : State} {a0 args : Array Value} (hZ : Z.Warmed39 s.vm) (hw : ∀ d ∈ wordsChN, d.before a0 Z = true) : ∀ d ∈ wordsChN, d.before args s = true := fun d hd => by
  have t : ∀ d ∈ wordsChN, (d.onTables && d.keepsFace) = true := by decide +kernel
  exact RoadKit.mv hZ (hw d hd) (t d hd)
/-- **charAt(i) OF A LATIN-1 STRING**, i < n: the char -/
theorem chN {p : Program} {l : Launch} {e : Env} {R : Room} {s : State} {args : Array Value} {below : List Frame} {len W : Nat} {Z : State} {a0 : Array Value} {h : Heap} (hZ : Z.Warmed39 s.vm) (hw : ∀ d ∈ wordsChN, d.before a0 Z = true) {kI : Nat} (wi : (Jvm.Cond.instantiable ST kI).before a0 Z = true)
    {x t : Addr} {kb : ClassId} {cs : List Int32} {N2 z : Int32} {vs : List Value} {fm : Value} {i : Nat} {j : Int32} (E : RoadKit.Exa Z h x ST) (V : RoadKit.Fld Z h x ST "value" "[B" (.ref t)) (C : RoadKit.Fld Z h x ST "coder" "B" (.int 0)) (K : RoadKit.Arv Z h t kb .byte N2 vs (.int 0)) (hc : CodA cs 0 N2 vs) (hb : ∀ c ∈ cs, ¬ c < 0 ∧ ¬ (65535 : Int32) < c)
    (S : RoadKit.Sta Z h ST "COMPACT_STRINGS" "Z" (.int z)) (hz : ¬ z = 0) (F : RoadKit.Sta Z h "jdk/internal/util/Preconditions" "SIOOBE_FORMATTER" "Ljava/util/function/BiFunction;" fm) (rf : fm.isRef = true) (l2 : cs.length ≤ 4000) (hi : i < cs.length) (hj : j = Int32.ofNat i) (hfr : 4 ≤ R.frames) (hlo : W + 53 ≤ R.locals) :
    Back l R p e below s args (⟨"java/lang/String", "charAt", "(I)C"⟩ : MethodName) len W (fun P a => a = #[.ref x, .int j] ∧ P.U.heap = h ∧ P.cells + 0 ≤ R.cells ∧ P.slots + 0 ≤ R.slots)
      (fun P _ v B => ∃ L, (v = some (.int (cs.getD i 0)) ∧ L = [] ∧ B.U.heap = h) ∧ B.locs = P.locs ++ L ∧ B.cells = P.cells + 0 ∧ B.slots = P.slots + 0) := by
  subst hj
  intro m meth c P g ig mk a X hg hsize hdg hW hn hp'
  obtain ⟨rfl, rfl, r1, r2⟩ := hp'
  have al : Z.vm.Alike P.U.vm := hZ.alike.trans X.warmed.alike
  obtain ⟨A, hx⟩ := txt_of wi al E V C K hc hb l2
  obtain ⟨v, B, X', ⟨⟨hv, hh⟩, hl, hk, hs⟩, st⟩ := ChN.pays x t A cs.length (fun j => cs.getD j 0) z fm i (tabChN_of (movedChN hZ hw)) hfr hlo m meth c P g ig mk _ X hg hsize hdg hW hn ⟨r1, r2, rfl, hx, hi, sta_is al S, hz, sta_is al F, rf⟩
  exact ⟨v, B, X', ⟨[], ⟨hv, rfl, hh⟩, hl, hk, hs⟩, st⟩
/-- what backV says of its String, as the contracts of this text ask it: cs's low bytes, coder 0 -/
theorem codOf {cs : List Int32} {n : Nat} (hn : cs.length = n) (hb : ∀ c ∈ cs, ¬ 255 < c) : CodA cs 0 (Int32.ofNat n) ((cs.map lo8).map Value.int) := Or.inl ⟨rfl, by rw [hn], by simp [List.map_map, Function.comp_def], hb⟩
end StrChars.Road
end Jvm.Pilot.@@N@@

namespace Jvm.Pilot.@@N@@
open Jvm Jvm.ClassFile Sem Op Lib Jvm.Free Jvm.Stand Jvm.LawKit Jvm.RoadKit Bundle Jvm.Pilot.@@N@@.Jvm.D
def own_To (p : Program) (l : Launch) (e : Env) (R : Room) (s : State) (m : MethodId) (args : Array Value) (below : List Frame) (meth : Method) (c : Code) (locs : List Loc) (cells slots : Nat) (h : Heap) (T : State) (g g' : JFrame) : Prop :=
  ∃ T' : State, Stand p l e R s m args below meth c T' locs cells slots ∧ T'.heap = h ∧ ∀ tg, Steps p.tables e below (T'.setTop g') tg → Steps p.tables e below (T.setTop g) tg
theorem own_to {p : Program} {l : Launch} {e : Env} {R : Room} {s : State} {m : MethodId} {args : Array Value} {below : List Frame} {meth : Method} {c : Code} {T : State} {locs : List Loc} {cells slots : Nat} (X : Stand p l e R s m args below meth c T locs cells slots) {h : Heap} {g g' : JFrame}
    (H : own_To p l e R s m args below meth c locs cells slots h T g g') : ∃ T' : State, Stand p l e R s m args below meth c T' locs cells slots ∧ T'.heap = h ∧ ∀ tg, Steps p.tables e below (T'.setTop g') tg → Steps p.tables e below (T.setTop g) tg := H
def own_ToP (p : Program) (l : Launch) (e : Env) (R : Room) (s : State) (m : MethodId) (args : Array Value) (below : List Frame) (meth : Method) (c : Code) (locs : List Loc) (cells slots : Nat) (h : Heap) (T : State) (g : JFrame) (P : JFrame → Prop) : Prop :=
  ∃ (T' : State) (g' : JFrame), P g' ∧ Stand p l e R s m args below meth c T' locs cells slots ∧ T'.heap = h ∧ ∀ tg, Steps p.tables e below (T'.setTop g') tg → Steps p.tables e below (T.setTop g) tg
def own_ToK (p : Program) (l : Launch) (e : Env) (R : Room) (s : State) (m : MethodId) (args : Array Value) (below : List Frame) (meth : Method) (c : Code) (n0 : Nat) (cells slots : Nat) (T : State) (g : JFrame) (P : Heap → JFrame → Prop) : Prop :=
  ∃ (T' : State) (g' : JFrame) (L : List Loc), Stand p l e R s m args below meth c T' L cells slots ∧ Fr n0 L ∧ P T'.heap g' ∧ ∀ tg, Steps p.tables e below (T'.setTop g') tg → Steps p.tables e below (T.setTop g) tg
theorem own_wid {p : Program} {l : Launch} {e : Env} {R : Room} {s : State} {m : MethodId} {args : Array Value} {below : List Frame} {meth : Method} {c : Code} {T : State} {locs : List Loc} {cells slots cells' slots' : Nat} (X : Stand p l e R s m args below meth c T locs cells slots) (h1 : cells ≤ cells') (h2 : slots ≤ slots') : Stand p l e R s m args below meth c T locs cells' slots' := { X with same := X.same.mono h1 h2 }
theorem own_inc (i : Nat) : Int32.ofNat i + (1 : Int32) = Int32.ofNat (i + 1) := (Int32.ofNat_add i 1).symm
theorem own_toI {i : Nat} (h : i < 2147483648) : (Int32.ofNat i).toInt = (i : Int) := Int32.toInt_ofNat_of_lt h
theorem own_lt {i j : Nat} (h : i < j) (hj : j < 2147483648) : Int32.ofNat i < Int32.ofNat j := by
  rw [Int32.lt_iff_toInt_lt, own_toI (by omega), own_toI hj]; omega
theorem own_nlt {i j : Nat} (h : ¬ i < j) (hi : i < 2147483648) : ¬ Int32.ofNat i < Int32.ofNat j := by
  rw [Int32.lt_iff_toInt_lt, own_toI hi, own_toI (by omega)]; omega
theorem own_ltI {i j : Nat} (h : Int32.ofNat i < Int32.ofNat j) (hi : i < 2147483648) (hj : j < 2147483648) : i < j := by
  rw [Int32.lt_iff_toInt_lt, own_toI hi, own_toI hj] at h; omega
theorem own_nltI {i j : Nat} (h : ¬ Int32.ofNat i < Int32.ofNat j) (hi : i < 2147483648) (hj : j < 2147483648) : ¬ i < j := by
  rw [Int32.lt_iff_toInt_lt, own_toI hi, own_toI hj] at h; omega
theorem own_inj {i j : Nat} (h : Int32.ofNat i = Int32.ofNat j) (hi : i < 2147483648) (hj : j < 2147483648) : i = j := by
  have q := congrArg Int32.toInt h
  rw [own_toI hi, own_toI hj] at q; omega
theorem own_nneg (i : Nat) (hi : i < 2147483648) : ¬ Int32.ofNat i < 0 := by
  rw [Int32.lt_iff_toInt_lt, own_toI hi]; show ¬ (i : Int) < 0; omega
theorem own_clamp {i : Nat} (hi : i < 2147483648) : (Int32.ofNat i).toNatClampNeg = i := clamp_of rfl hi
theorem own_narm (x : Int32) : nar .char (x &&& (255 : Int32)) = (x &&& (255 : Int32)) := i2c_mask x
theorem own_osz {Z : State} {n0 : Nat} {h : Heap} (O : Old Z n0 h) : n0 ≤ h.size := O.1 ▸ O.2.1
theorem pn_0 : plainName "java/lang/StringLatin1" = true := by first | (simp [plainName, overriddenIn]; done) | decide +kernel
theorem pn_1 : plainName "java/lang/String" = true := by first | (simp [plainName, overriddenIn]; done) | decide +kernel
theorem pn_2 : plainName "com/example/resultwire/resultwire/er7/Pieces" = true := by first | (simp [plainName, overriddenIn]; done) | decide +kernel
theorem pn_3 : plainName "com/example/resultwire/resultwire/er7/PiecesIsSplitPinLaw" = true := by first | (simp [plainName, overriddenIn]; done) | decide +kernel
theorem pd_0 : parseMethodDescriptor "(I)Z" = some ⟨[.int], some .boolean⟩ := by decide +kernel
theorem pd_1 : parseMethodDescriptor "(II)I" = some ⟨[.int, .int], some .int⟩ := by decide +kernel
theorem pd_2 : parseMethodDescriptor "([BIII)I" = some ⟨[(.array .byte), .int, .int, .int], some .int⟩ := by decide +kernel
theorem pd_3 : parseMethodDescriptor "()Z" = some ⟨[], some .boolean⟩ := by decide +kernel
theorem pd_4 : parseMethodDescriptor "()I" = some ⟨[], some .int⟩ := by decide +kernel
theorem pd_5 : parseMethodDescriptor "(I)C" = some ⟨[.int], some .char⟩ := by decide +kernel
theorem pd_6 : parseMethodDescriptor "(Ljava/lang/String;III)I" = some ⟨[(.object "java/lang/String"), .int, .int, .int], some .int⟩ := by decide +kernel
theorem pd_7 : parseMethodDescriptor "([C)V" = some ⟨[(.array .char)], none⟩ := by decide +kernel
theorem pd_8 : parseMethodDescriptor "(Ljava/lang/String;III)V" = some ⟨[(.object "java/lang/String"), .int, .int, .int], none⟩ := by decide +kernel
theorem pd_9 : parseMethodDescriptor "(CIIII)Z" = some ⟨[.char, .int, .int, .int, .int], some .boolean⟩ := by decide +kernel
theorem pd_10 : parseMethodDescriptor "()V" = some ⟨[], none⟩ := by decide +kernel
theorem d_jdk_29_method_65_0 : decode jdk_29_method_65_code 0 = .ok (.iload_n 0, 1) := by decide +kernel
theorem d_jdk_29_method_65_1 : decode jdk_29_method_65_code 1 = .ok (.iload_n 1, 1) := by decide +kernel
theorem d_jdk_29_method_65_10 : decode jdk_29_method_65_code 10 = .ok (.ireturn, 1) := by decide +kernel
theorem d_jdk_29_method_65_2 : decode jdk_29_method_65_code 2 = .ok (.if_icmp .lt 7, 3) := by decide +kernel
theorem d_jdk_29_method_65_5 : decode jdk_29_method_65_code 5 = .ok (.iload_n 0, 1) := by decide +kernel
theorem d_jdk_29_method_65_6 : decode jdk_29_method_65_code 6 = .ok (.goto 4, 3) := by decide +kernel
theorem d_jdk_29_method_65_9 : decode jdk_29_method_65_code 9 = .ok (.iload_n 1, 1) := by decide +kernel
theorem d_jdk_29_method_69_0 : decode jdk_29_method_69_code 0 = .ok (.iload_n 0, 1) := by decide +kernel
theorem d_jdk_29_method_69_1 : decode jdk_29_method_69_code 1 = .ok (.iload_n 1, 1) := by decide +kernel
theorem d_jdk_29_method_69_10 : decode jdk_29_method_69_code 10 = .ok (.ireturn, 1) := by decide +kernel
theorem d_jdk_29_method_69_2 : decode jdk_29_method_69_code 2 = .ok (.if_icmp .gt 7, 3) := by decide +kernel
theorem d_jdk_29_method_69_5 : decode jdk_29_method_69_code 5 = .ok (.iload_n 0, 1) := by decide +kernel
theorem d_jdk_29_method_69_6 : decode jdk_29_method_69_code 6 = .ok (.goto 4, 3) := by decide +kernel
theorem d_jdk_29_method_69_9 : decode jdk_29_method_69_code 9 = .ok (.iload_n 1, 1) := by decide +kernel
theorem d_jdk_42_method_154_0 : decode jdk_42_method_154_code 0 = .ok (.getstatic 38, 3) := by decide +kernel
theorem d_jdk_42_method_154_10 : decode jdk_42_method_154_code 10 = .ok (.ifCond .ne 7, 3) := by decide +kernel
theorem d_jdk_42_method_154_13 : decode jdk_42_method_154_code 13 = .ok (.iconst 1, 1) := by decide +kernel
theorem d_jdk_42_method_154_14 : decode jdk_42_method_154_code 14 = .ok (.goto 4, 3) := by decide +kernel
theorem d_jdk_42_method_154_18 : decode jdk_42_method_154_code 18 = .ok (.ireturn, 1) := by decide +kernel
theorem d_jdk_42_method_154_3 : decode jdk_42_method_154_code 3 = .ok (.ifCond .eq 14, 3) := by decide +kernel
theorem d_jdk_42_method_154_6 : decode jdk_42_method_154_code 6 = .ok (.aload_n 0, 1) := by decide +kernel
theorem d_jdk_42_method_154_7 : decode jdk_42_method_154_code 7 = .ok (.getfield 15, 3) := by decide +kernel
theorem d_jdk_42_method_80_0 : decode jdk_42_method_80_code 0 = .ok (.aload_n 0, 1) := by decide +kernel
theorem d_jdk_42_method_80_1 : decode jdk_42_method_80_code 1 = .ok (.invokevirtual 492, 3) := by decide +kernel
theorem d_jdk_42_method_80_11 : decode jdk_42_method_80_code 11 = .ok (.iload_n 1, 1) := by decide +kernel
theorem d_jdk_42_method_80_12 : decode jdk_42_method_80_code 12 = .ok (.iload_n 2, 1) := by decide +kernel
theorem d_jdk_42_method_80_13 : decode jdk_42_method_80_code 13 = .ok (.aload_n 0, 1) := by decide +kernel
theorem d_jdk_42_method_80_14 : decode jdk_42_method_80_code 14 = .ok (.invokevirtual 505, 3) := by decide +kernel
theorem d_jdk_42_method_80_17 : decode jdk_42_method_80_code 17 = .ok (.invokestatic 637, 3) := by decide +kernel
theorem d_jdk_42_method_80_20 : decode jdk_42_method_80_code 20 = .ok (.goto 16, 3) := by decide +kernel
theorem d_jdk_42_method_80_36 : decode jdk_42_method_80_code 36 = .ok (.ireturn, 1) := by decide +kernel
theorem d_jdk_42_method_80_4 : decode jdk_42_method_80_code 4 = .ok (.ifCond .eq 19, 3) := by decide +kernel
theorem d_jdk_42_method_80_7 : decode jdk_42_method_80_code 7 = .ok (.aload_n 0, 1) := by decide +kernel
theorem d_jdk_42_method_80_8 : decode jdk_42_method_80_code 8 = .ok (.getfield 9, 3) := by decide +kernel
theorem d_jdk_43_method_22_0 : decode jdk_43_method_22_code 0 = .ok (.iload_n 1, 1) := by decide +kernel
theorem d_jdk_43_method_22_1 : decode jdk_43_method_22_code 1 = .ok (.invokestatic 88, 3) := by decide +kernel
theorem d_jdk_43_method_22_10 : decode jdk_43_method_22_code 10 = .ok (.iconst 0, 1) := by decide +kernel
theorem d_jdk_43_method_22_11 : decode jdk_43_method_22_code 11 = .ok (.invokestatic 92, 3) := by decide +kernel
theorem d_jdk_43_method_22_14 : decode jdk_43_method_22_code 14 = .ok (.istore_n 2, 1) := by decide +kernel
theorem d_jdk_43_method_22_15 : decode jdk_43_method_22_code 15 = .ok (.iload_n 3, 1) := by decide +kernel
theorem d_jdk_43_method_22_16 : decode jdk_43_method_22_code 16 = .ok (.aload_n 0, 1) := by decide +kernel
theorem d_jdk_43_method_22_17 : decode jdk_43_method_22_code 17 = .ok (.arraylength, 1) := by decide +kernel
theorem d_jdk_43_method_22_18 : decode jdk_43_method_22_code 18 = .ok (.invokestatic 38, 3) := by decide +kernel
theorem d_jdk_43_method_22_21 : decode jdk_43_method_22_code 21 = .ok (.istore_n 3, 1) := by decide +kernel
theorem d_jdk_43_method_22_22 : decode jdk_43_method_22_code 22 = .ok (.iload_n 2, 1) := by decide +kernel
theorem d_jdk_43_method_22_23 : decode jdk_43_method_22_code 23 = .ok (.iload_n 3, 1) := by decide +kernel
theorem d_jdk_43_method_22_24 : decode jdk_43_method_22_code 24 = .ok (.if_icmp .lt 5, 3) := by decide +kernel
theorem d_jdk_43_method_22_27 : decode jdk_43_method_22_code 27 = .ok (.iconst (-1), 1) := by decide +kernel
theorem d_jdk_43_method_22_28 : decode jdk_43_method_22_code 28 = .ok (.ireturn, 1) := by decide +kernel
theorem d_jdk_43_method_22_29 : decode jdk_43_method_22_code 29 = .ok (.aload_n 0, 1) := by decide +kernel
theorem d_jdk_43_method_22_30 : decode jdk_43_method_22_code 30 = .ok (.iload_n 1, 1) := by decide +kernel
theorem d_jdk_43_method_22_31 : decode jdk_43_method_22_code 31 = .ok (.iload_n 2, 1) := by decide +kernel
theorem d_jdk_43_method_22_32 : decode jdk_43_method_22_code 32 = .ok (.iload_n 3, 1) := by decide +kernel
theorem d_jdk_43_method_22_33 : decode jdk_43_method_22_code 33 = .ok (.invokestatic 95, 3) := by decide +kernel
theorem d_jdk_43_method_22_36 : decode jdk_43_method_22_code 36 = .ok (.ireturn, 1) := by decide +kernel
theorem d_jdk_43_method_22_4 : decode jdk_43_method_22_code 4 = .ok (.ifCond .ne 5, 3) := by decide +kernel
theorem d_jdk_43_method_22_7 : decode jdk_43_method_22_code 7 = .ok (.iconst (-1), 1) := by decide +kernel
theorem d_jdk_43_method_22_8 : decode jdk_43_method_22_code 8 = .ok (.ireturn, 1) := by decide +kernel
theorem d_jdk_43_method_22_9 : decode jdk_43_method_22_code 9 = .ok (.iload_n 2, 1) := by decide +kernel
theorem d_jdk_43_method_23_0 : decode jdk_43_method_23_code 0 = .ok (.iload_n 1, 1) := by decide +kernel
theorem d_jdk_43_method_23_1 : decode jdk_43_method_23_code 1 = .ok (.i2b, 1) := by decide +kernel
theorem d_jdk_43_method_23_10 : decode jdk_43_method_23_code 10 = .ok (.if_icmp .ge 21, 3) := by decide +kernel
theorem d_jdk_43_method_23_13 : decode jdk_43_method_23_code 13 = .ok (.aload_n 0, 1) := by decide +kernel
theorem d_jdk_43_method_23_14 : decode jdk_43_method_23_code 14 = .ok (.iload 5, 2) := by decide +kernel
theorem d_jdk_43_method_23_16 : decode jdk_43_method_23_code 16 = .ok (.baload, 1) := by decide +kernel
theorem d_jdk_43_method_23_17 : decode jdk_43_method_23_code 17 = .ok (.iload 4, 2) := by decide +kernel
theorem d_jdk_43_method_23_19 : decode jdk_43_method_23_code 19 = .ok (.if_icmp .ne 6, 3) := by decide +kernel
theorem d_jdk_43_method_23_2 : decode jdk_43_method_23_code 2 = .ok (.istore 4, 2) := by decide +kernel
theorem d_jdk_43_method_23_22 : decode jdk_43_method_23_code 22 = .ok (.iload 5, 2) := by decide +kernel
theorem d_jdk_43_method_23_24 : decode jdk_43_method_23_code 24 = .ok (.ireturn, 1) := by decide +kernel
theorem d_jdk_43_method_23_25 : decode jdk_43_method_23_code 25 = .ok (.iinc 5 1, 3) := by decide +kernel
theorem d_jdk_43_method_23_28 : decode jdk_43_method_23_code 28 = .ok (.goto (-21), 3) := by decide +kernel
theorem d_jdk_43_method_23_31 : decode jdk_43_method_23_code 31 = .ok (.iconst (-1), 1) := by decide +kernel
theorem d_jdk_43_method_23_32 : decode jdk_43_method_23_code 32 = .ok (.ireturn, 1) := by decide +kernel
theorem d_jdk_43_method_23_4 : decode jdk_43_method_23_code 4 = .ok (.iload_n 2, 1) := by decide +kernel
theorem d_jdk_43_method_23_5 : decode jdk_43_method_23_code 5 = .ok (.istore 5, 2) := by decide +kernel
theorem d_jdk_43_method_23_7 : decode jdk_43_method_23_code 7 = .ok (.iload 5, 2) := by decide +kernel
theorem d_jdk_43_method_23_9 : decode jdk_43_method_23_code 9 = .ok (.iload_n 3, 1) := by decide +kernel
theorem d_jdk_43_method_4_0 : decode jdk_43_method_4_code 0 = .ok (.iload_n 0, 1) := by decide +kernel
theorem d_jdk_43_method_4_1 : decode jdk_43_method_4_code 1 = .ok (.ifCond .lt 14, 3) := by decide +kernel
theorem d_jdk_43_method_4_11 : decode jdk_43_method_4_code 11 = .ok (.iconst 1, 1) := by decide +kernel
theorem d_jdk_43_method_4_12 : decode jdk_43_method_4_code 12 = .ok (.goto 4, 3) := by decide +kernel
theorem d_jdk_43_method_4_15 : decode jdk_43_method_4_code 15 = .ok (.iconst 0, 1) := by decide +kernel
theorem d_jdk_43_method_4_16 : decode jdk_43_method_4_code 16 = .ok (.ireturn, 1) := by decide +kernel
theorem d_jdk_43_method_4_4 : decode jdk_43_method_4_code 4 = .ok (.iload_n 0, 1) := by decide +kernel
theorem d_jdk_43_method_4_5 : decode jdk_43_method_4_code 5 = .ok (.sipush 255, 3) := by decide +kernel
theorem d_jdk_43_method_4_8 : decode jdk_43_method_4_code 8 = .ok (.if_icmp .gt 7, 3) := by decide +kernel
theorem d_method_3_0 : decode method_3_code 0 = .ok (.iload_n 2, 1) := by decide +kernel
theorem d_method_3_1 : decode method_3_code 1 = .ok (.iload_n 1, 1) := by decide +kernel
theorem d_method_3_10 : decode method_3_code 10 = .ok (.iload_n 0, 1) := by decide +kernel
theorem d_method_3_11 : decode method_3_code 11 = .ok (.iload 4, 2) := by decide +kernel
theorem d_method_3_13 : decode method_3_code 13 = .ok (.if_icmp .ne 7, 3) := by decide +kernel
theorem d_method_3_16 : decode method_3_code 16 = .ok (.iconst 1, 1) := by decide +kernel
theorem d_method_3_17 : decode method_3_code 17 = .ok (.goto 4, 3) := by decide +kernel
theorem d_method_3_2 : decode method_3_code 2 = .ok (.if_icmp .gt 18, 3) := by decide +kernel
theorem d_method_3_20 : decode method_3_code 20 = .ok (.iconst 0, 1) := by decide +kernel
theorem d_method_3_21 : decode method_3_code 21 = .ok (.ireturn, 1) := by decide +kernel
theorem d_method_3_5 : decode method_3_code 5 = .ok (.iload_n 1, 1) := by decide +kernel
theorem d_method_3_6 : decode method_3_code 6 = .ok (.iload_n 3, 1) := by decide +kernel
theorem d_method_3_7 : decode method_3_code 7 = .ok (.if_icmp .ge 13, 3) := by decide +kernel
theorem d_prog_141_method_1_0 : decode prog_141_method_1_code 0 = .ok (.aload_n 0, 1) := by decide +kernel
theorem d_prog_141_method_1_1 : decode prog_141_method_1_code 1 = .ok (.invokespecial 1, 3) := by decide +kernel
theorem d_prog_141_method_1_10 : decode prog_141_method_1_code 10 = .ok (.iload_n 2, 1) := by decide +kernel
theorem d_prog_141_method_1_11 : decode prog_141_method_1_code 11 = .ok (.putfield 13, 3) := by decide +kernel
theorem d_prog_141_method_1_14 : decode prog_141_method_1_code 14 = .ok (.aload_n 0, 1) := by decide +kernel
theorem d_prog_141_method_1_15 : decode prog_141_method_1_code 15 = .ok (.iload 4, 2) := by decide +kernel
theorem d_prog_141_method_1_17 : decode prog_141_method_1_code 17 = .ok (.putfield 17, 3) := by decide +kernel
theorem d_prog_141_method_1_20 : decode prog_141_method_1_code 20 = .ok (.aload_n 0, 1) := by decide +kernel
theorem d_prog_141_method_1_21 : decode prog_141_method_1_code 21 = .ok (.iload_n 3, 1) := by decide +kernel
theorem d_prog_141_method_1_22 : decode prog_141_method_1_code 22 = .ok (.putfield 20, 3) := by decide +kernel
theorem d_prog_141_method_1_25 : decode prog_141_method_1_code 25 = .ok (.aload_n 0, 1) := by decide +kernel
theorem d_prog_141_method_1_26 : decode prog_141_method_1_code 26 = .ok (.iload_n 3, 1) := by decide +kernel
theorem d_prog_141_method_1_27 : decode prog_141_method_1_code 27 = .ok (.putfield 23, 3) := by decide +kernel
theorem d_prog_141_method_1_30 : decode prog_141_method_1_code 30 = .ok (.aload_n 0, 1) := by decide +kernel
theorem d_prog_141_method_1_31 : decode prog_141_method_1_code 31 = .ok (.iload_n 3, 1) := by decide +kernel
theorem d_prog_141_method_1_32 : decode prog_141_method_1_code 32 = .ok (.putfield 26, 3) := by decide +kernel
theorem d_prog_141_method_1_35 : decode prog_141_method_1_code 35 = .ok (.return_, 1) := by decide +kernel
theorem d_prog_141_method_1_4 : decode prog_141_method_1_code 4 = .ok (.aload_n 0, 1) := by decide +kernel
theorem d_prog_141_method_1_5 : decode prog_141_method_1_code 5 = .ok (.aload_n 1, 1) := by decide +kernel
theorem d_prog_141_method_1_6 : decode prog_141_method_1_code 6 = .ok (.putfield 7, 3) := by decide +kernel
theorem d_prog_141_method_1_9 : decode prog_141_method_1_code 9 = .ok (.aload_n 0, 1) := by decide +kernel
theorem d_prog_141_method_3_0 : decode prog_141_method_3_code 0 = .ok (.iload_n 3, 1) := by decide +kernel
theorem d_prog_141_method_3_1 : decode prog_141_method_3_code 1 = .ok (.istore 4, 2) := by decide +kernel
theorem d_prog_141_method_3_11 : decode prog_141_method_3_code 11 = .ok (.iload_n 3, 1) := by decide +kernel
theorem d_prog_141_method_3_12 : decode prog_141_method_3_code 12 = .ok (.aload_n 0, 1) := by decide +kernel
theorem d_prog_141_method_3_13 : decode prog_141_method_3_code 13 = .ok (.invokevirtual 36, 3) := by decide +kernel
theorem d_prog_141_method_3_16 : decode prog_141_method_3_code 16 = .ok (.if_icmp .ne 23, 3) := by decide +kernel
theorem d_prog_141_method_3_19 : decode prog_141_method_3_code 19 = .ok (.aload_n 0, 1) := by decide +kernel
theorem d_prog_141_method_3_20 : decode prog_141_method_3_code 20 = .ok (.iload_n 1, 1) := by decide +kernel
theorem d_prog_141_method_3_21 : decode prog_141_method_3_code 21 = .ok (.iload_n 2, 1) := by decide +kernel
theorem d_prog_141_method_3_22 : decode prog_141_method_3_code 22 = .ok (.invokevirtual 42, 3) := by decide +kernel
theorem d_prog_141_method_3_25 : decode prog_141_method_3_code 25 = .ok (.istore 5, 2) := by decide +kernel
theorem d_prog_141_method_3_27 : decode prog_141_method_3_code 27 = .ok (.iload 5, 2) := by decide +kernel
theorem d_prog_141_method_3_29 : decode prog_141_method_3_code 29 = .ok (.ifCond .lt 7, 3) := by decide +kernel
theorem d_prog_141_method_3_3 : decode prog_141_method_3_code 3 = .ok (.iload_n 1, 1) := by decide +kernel
theorem d_prog_141_method_3_32 : decode prog_141_method_3_code 32 = .ok (.iload 5, 2) := by decide +kernel
theorem d_prog_141_method_3_34 : decode prog_141_method_3_code 34 = .ok (.istore 4, 2) := by decide +kernel
theorem d_prog_141_method_3_36 : decode prog_141_method_3_code 36 = .ok (.goto 32, 3) := by decide +kernel
theorem d_prog_141_method_3_39 : decode prog_141_method_3_code 39 = .ok (.iload_n 2, 1) := by decide +kernel
theorem d_prog_141_method_3_4 : decode prog_141_method_3_code 4 = .ok (.iconst (-1), 1) := by decide +kernel
theorem d_prog_141_method_3_40 : decode prog_141_method_3_code 40 = .ok (.istore 5, 2) := by decide +kernel
theorem d_prog_141_method_3_42 : decode prog_141_method_3_code 42 = .ok (.iload 5, 2) := by decide +kernel
theorem d_prog_141_method_3_44 : decode prog_141_method_3_code 44 = .ok (.iload_n 3, 1) := by decide +kernel
theorem d_prog_141_method_3_45 : decode prog_141_method_3_code 45 = .ok (.if_icmp .ge 19, 3) := by decide +kernel
theorem d_prog_141_method_3_48 : decode prog_141_method_3_code 48 = .ok (.aload_n 0, 1) := by decide +kernel
theorem d_prog_141_method_3_49 : decode prog_141_method_3_code 49 = .ok (.iload 5, 2) := by decide +kernel
theorem d_prog_141_method_3_5 : decode prog_141_method_3_code 5 = .ok (.if_icmp .ne 6, 3) := by decide +kernel
theorem d_prog_141_method_3_51 : decode prog_141_method_3_code 51 = .ok (.invokevirtual 46, 3) := by decide +kernel
theorem d_prog_141_method_3_54 : decode prog_141_method_3_code 54 = .ok (.iload_n 1, 1) := by decide +kernel
theorem d_prog_141_method_3_55 : decode prog_141_method_3_code 55 = .ok (.if_icmp .eq 9, 3) := by decide +kernel
theorem d_prog_141_method_3_58 : decode prog_141_method_3_code 58 = .ok (.iinc 5 1, 3) := by decide +kernel
theorem d_prog_141_method_3_61 : decode prog_141_method_3_code 61 = .ok (.goto (-19), 3) := by decide +kernel
theorem d_prog_141_method_3_64 : decode prog_141_method_3_code 64 = .ok (.iload 5, 2) := by decide +kernel
theorem d_prog_141_method_3_66 : decode prog_141_method_3_code 66 = .ok (.istore 4, 2) := by decide +kernel
theorem d_prog_141_method_3_68 : decode prog_141_method_3_code 68 = .ok (.iload 4, 2) := by decide +kernel
theorem d_prog_141_method_3_70 : decode prog_141_method_3_code 70 = .ok (.ireturn, 1) := by decide +kernel
theorem d_prog_141_method_3_8 : decode prog_141_method_3_code 8 = .ok (.goto 60, 3) := by decide +kernel
theorem d_prog_141_method_4_0 : decode prog_141_method_4_code 0 = .ok (.aload_n 0, 1) := by decide +kernel
theorem d_prog_141_method_4_1 : decode prog_141_method_4_code 1 = .ok (.getfield 50, 3) := by decide +kernel
theorem d_prog_141_method_4_12 : decode prog_141_method_4_code 12 = .ok (.iconst 1, 1) := by decide +kernel
theorem d_prog_141_method_4_13 : decode prog_141_method_4_code 13 = .ok (.if_icmp .ne 18, 3) := by decide +kernel
theorem d_prog_141_method_4_16 : decode prog_141_method_4_code 16 = .ok (.aload_n 0, 1) := by decide +kernel
theorem d_prog_141_method_4_17 : decode prog_141_method_4_code 17 = .ok (.getfield 26, 3) := by decide +kernel
theorem d_prog_141_method_4_20 : decode prog_141_method_4_code 20 = .ok (.aload_n 0, 1) := by decide +kernel
theorem d_prog_141_method_4_21 : decode prog_141_method_4_code 21 = .ok (.getfield 17, 3) := by decide +kernel
theorem d_prog_141_method_4_24 : decode prog_141_method_4_code 24 = .ok (.if_icmp .ge 7, 3) := by decide +kernel
theorem d_prog_141_method_4_27 : decode prog_141_method_4_code 27 = .ok (.iconst 1, 1) := by decide +kernel
theorem d_prog_141_method_4_28 : decode prog_141_method_4_code 28 = .ok (.goto 4, 3) := by decide +kernel
theorem d_prog_141_method_4_31 : decode prog_141_method_4_code 31 = .ok (.iconst 0, 1) := by decide +kernel
theorem d_prog_141_method_4_32 : decode prog_141_method_4_code 32 = .ok (.ireturn, 1) := by decide +kernel
theorem d_prog_141_method_4_4 : decode prog_141_method_4_code 4 = .ok (.iconst 1, 1) := by decide +kernel
theorem d_prog_141_method_4_5 : decode prog_141_method_4_code 5 = .ok (.if_icmp .gt 22, 3) := by decide +kernel
theorem d_prog_141_method_4_8 : decode prog_141_method_4_code 8 = .ok (.aload_n 0, 1) := by decide +kernel
theorem d_prog_141_method_4_9 : decode prog_141_method_4_code 9 = .ok (.getfield 50, 3) := by decide +kernel
theorem d_prog_141_method_8_0 : decode prog_141_method_8_code 0 = .ok (.aload_n 0, 1) := by decide +kernel
theorem d_prog_141_method_8_1 : decode prog_141_method_8_code 1 = .ok (.invokevirtual 53, 3) := by decide +kernel
theorem d_prog_141_method_8_15 : decode prog_141_method_8_code 15 = .ok (.aload_n 0, 1) := by decide +kernel
theorem d_prog_141_method_8_16 : decode prog_141_method_8_code 16 = .ok (.aload_n 0, 1) := by decide +kernel
theorem d_prog_141_method_8_17 : decode prog_141_method_8_code 17 = .ok (.getfield 20, 3) := by decide +kernel
theorem d_prog_141_method_8_20 : decode prog_141_method_8_code 20 = .ok (.putfield 23, 3) := by decide +kernel
theorem d_prog_141_method_8_23 : decode prog_141_method_8_code 23 = .ok (.aload_n 0, 1) := by decide +kernel
theorem d_prog_141_method_8_24 : decode prog_141_method_8_code 24 = .ok (.aload_n 0, 1) := by decide +kernel
theorem d_prog_141_method_8_25 : decode prog_141_method_8_code 25 = .ok (.getfield 7, 3) := by decide +kernel
theorem d_prog_141_method_8_28 : decode prog_141_method_8_code 28 = .ok (.aload_n 0, 1) := by decide +kernel
theorem d_prog_141_method_8_29 : decode prog_141_method_8_code 29 = .ok (.getfield 13, 3) := by decide +kernel
theorem d_prog_141_method_8_32 : decode prog_141_method_8_code 32 = .ok (.aload_n 0, 1) := by decide +kernel
theorem d_prog_141_method_8_33 : decode prog_141_method_8_code 33 = .ok (.getfield 20, 3) := by decide +kernel
theorem d_prog_141_method_8_36 : decode prog_141_method_8_code 36 = .ok (.aload_n 0, 1) := by decide +kernel
theorem d_prog_141_method_8_37 : decode prog_141_method_8_code 37 = .ok (.getfield 17, 3) := by decide +kernel
theorem d_prog_141_method_8_4 : decode prog_141_method_8_code 4 = .ok (.ifCond .ne 11, 3) := by decide +kernel
theorem d_prog_141_method_8_40 : decode prog_141_method_8_code 40 = .ok (.invokestatic 60, 3) := by decide +kernel
theorem d_prog_141_method_8_43 : decode prog_141_method_8_code 43 = .ok (.putfield 26, 3) := by decide +kernel
theorem d_prog_141_method_8_46 : decode prog_141_method_8_code 46 = .ok (.aload_n 0, 1) := by decide +kernel
theorem d_prog_141_method_8_47 : decode prog_141_method_8_code 47 = .ok (.aload_n 0, 1) := by decide +kernel
theorem d_prog_141_method_8_48 : decode prog_141_method_8_code 48 = .ok (.getfield 26, 3) := by decide +kernel
theorem d_prog_141_method_8_51 : decode prog_141_method_8_code 51 = .ok (.iconst 1, 1) := by decide +kernel
theorem d_prog_141_method_8_52 : decode prog_141_method_8_code 52 = .ok (.iadd, 1) := by decide +kernel
theorem d_prog_141_method_8_53 : decode prog_141_method_8_code 53 = .ok (.putfield 20, 3) := by decide +kernel
theorem d_prog_141_method_8_56 : decode prog_141_method_8_code 56 = .ok (.aload_n 0, 1) := by decide +kernel
theorem d_prog_141_method_8_57 : decode prog_141_method_8_code 57 = .ok (.dup, 1) := by decide +kernel
theorem d_prog_141_method_8_58 : decode prog_141_method_8_code 58 = .ok (.getfield 50, 3) := by decide +kernel
theorem d_prog_141_method_8_61 : decode prog_141_method_8_code 61 = .ok (.iconst 1, 1) := by decide +kernel
theorem d_prog_141_method_8_62 : decode prog_141_method_8_code 62 = .ok (.iadd, 1) := by decide +kernel
theorem d_prog_141_method_8_63 : decode prog_141_method_8_code 63 = .ok (.putfield 50, 3) := by decide +kernel
theorem d_prog_141_method_8_66 : decode prog_141_method_8_code 66 = .ok (.return_, 1) := by decide +kernel
theorem d_prog_141_method_9_0 : decode prog_141_method_9_code 0 = .ok (.aload_n 0, 1) := by decide +kernel
theorem d_prog_141_method_9_1 : decode prog_141_method_9_code 1 = .ok (.getfield 20, 3) := by decide +kernel
theorem d_prog_141_method_9_11 : decode prog_141_method_9_code 11 = .ok (.iconst 1, 1) := by decide +kernel
theorem d_prog_141_method_9_12 : decode prog_141_method_9_code 12 = .ok (.goto 4, 3) := by decide +kernel
theorem d_prog_141_method_9_15 : decode prog_141_method_9_code 15 = .ok (.iconst 0, 1) := by decide +kernel
theorem d_prog_141_method_9_16 : decode prog_141_method_9_code 16 = .ok (.ireturn, 1) := by decide +kernel
theorem d_prog_141_method_9_4 : decode prog_141_method_9_code 4 = .ok (.aload_n 0, 1) := by decide +kernel
theorem d_prog_141_method_9_5 : decode prog_141_method_9_code 5 = .ok (.getfield 17, 3) := by decide +kernel
theorem d_prog_141_method_9_8 : decode prog_141_method_9_code 8 = .ok (.if_icmp .gt 7, 3) := by decide +kernel
theorem w_0 {Z : State} {a0 : Array Value} (hw : ∀ d ∈ tables_1, d.before a0 Z = true) : ((Jvm.Cond.arrayClass Jvm.ClassFile.FieldType.char) : Jvm.Cond).before a0 Z = true := hw _ (List.mem_of_getElem? (i := 0) rfl)
theorem w_1 {Z : State} {a0 : Array Value} (hw : ∀ d ∈ tables_1, d.before a0 Z = true) : ((Jvm.Cond.classLink "com/example/resultwire/resultwire/er7/PiecesIsSplitPinLaw" (7 : Nat) "java/lang/String") : Jvm.Cond).before a0 Z = true := hw _ (List.mem_of_getElem? (i := 1) rfl)
theorem w_2 {Z : State} {a0 : Array Value} (hw : ∀ d ∈ tables_1, d.before a0 Z = true) : ((Jvm.Cond.instantiable "java/lang/String" (4 : Nat)) : Jvm.Cond).before a0 Z = true := hw _ (List.mem_of_getElem? (i := 2) rfl)
theorem w_3 {Z : State} {a0 : Array Value} (hw : ∀ d ∈ tables_1, d.before a0 Z = true) : ((Jvm.Cond.initialized "java/lang/String") : Jvm.Cond).before a0 Z = true := hw _ (List.mem_of_getElem? (i := 3) rfl)
theorem w_4 {Z : State} {a0 : Array Value} (hw : ∀ d ∈ tables_1, d.before a0 Z = true) : ((Jvm.Cond.methodLink "com/example/resultwire/resultwire/er7/PiecesIsSplitPinLaw" (9 : Nat) ({ cls := "java/lang/String", name := "<init>", desc := "([C)V" } : Jvm.MethodName)) : Jvm.Cond).before a0 Z = true := hw _ (List.mem_of_getElem? (i := 4) rfl)
theorem w_5 {Z : State} {a0 : Array Value} (hw : ∀ d ∈ tables_1, d.before a0 Z = true) : ((Jvm.Cond.instanceMethod ({ cls := "java/lang/String", name := "<init>", desc := "([C)V" } : Jvm.MethodName)) : Jvm.Cond).before a0 Z = true := hw _ (List.mem_of_getElem? (i := 5) rfl)
theorem w_6 {Z : State} {a0 : Array Value} (hw : ∀ d ∈ tables_1, d.before a0 Z = true) : ((Jvm.Cond.code ({ cls := "java/lang/String", name := "<init>", desc := "([C)V" } : Jvm.MethodName) jdk_42_method_3_code (2 : Nat) (Option.none : Option Jvm.ClassFile.FieldType)) : Jvm.Cond).before a0 Z = true := hw _ (List.mem_of_getElem? (i := 6) rfl)
theorem w_12 {Z : State} {a0 : Array Value} (hw : ∀ d ∈ tables_1, d.before a0 Z = true) : ((Jvm.Cond.instanceMethod ({ cls := "java/lang/Object", name := "<init>", desc := "()V" } : Jvm.MethodName)) : Jvm.Cond).before a0 Z = true := hw _ (List.mem_of_getElem? (i := 12) rfl)
theorem w_13 {Z : State} {a0 : Array Value} (hw : ∀ d ∈ tables_1, d.before a0 Z = true) : ((Jvm.Cond.code ({ cls := "java/lang/Object", name := "<init>", desc := "()V" } : Jvm.MethodName) object_method_1_code (1 : Nat) (Option.none : Option Jvm.ClassFile.FieldType)) : Jvm.Cond).before a0 Z = true := hw _ (List.mem_of_getElem? (i := 13) rfl)
theorem w_14 {Z : State} {a0 : Array Value} (hw : ∀ d ∈ tables_1, d.before a0 Z = true) : ((Jvm.Cond.fieldLink "java/lang/String" (38 : Nat) "java/lang/String" "COMPACT_STRINGS" "Z") : Jvm.Cond).before a0 Z = true := hw _ (List.mem_of_getElem? (i := 14) rfl)
theorem w_26 {Z : State} {a0 : Array Value} (hw : ∀ d ∈ tables_1, d.before a0 Z = true) : ((Jvm.Cond.fieldLink "java/lang/String" (15 : Nat) "java/lang/String" "coder" "B") : Jvm.Cond).before a0 Z = true := hw _ (List.mem_of_getElem? (i := 26) rfl)
theorem w_27 {Z : State} {a0 : Array Value} (hw : ∀ d ∈ tables_1, d.before a0 Z = true) : ((Jvm.Cond.laysFinal "java/lang/String" "java/lang/String" "coder" "B") : Jvm.Cond).before a0 Z = true := hw _ (List.mem_of_getElem? (i := 27) rfl)
theorem w_28 {Z : State} {a0 : Array Value} (hw : ∀ d ∈ tables_1, d.before a0 Z = true) : ((Jvm.Cond.fieldLink "java/lang/String" (9 : Nat) "java/lang/String" "value" "[B") : Jvm.Cond).before a0 Z = true := hw _ (List.mem_of_getElem? (i := 28) rfl)
theorem w_29 {Z : State} {a0 : Array Value} (hw : ∀ d ∈ tables_1, d.before a0 Z = true) : ((Jvm.Cond.laysFinal "java/lang/String" "java/lang/String" "value" "[B") : Jvm.Cond).before a0 Z = true := hw _ (List.mem_of_getElem? (i := 29) rfl)
theorem w_30 {Z : State} {a0 : Array Value} (hw : ∀ d ∈ tables_1, d.before a0 Z = true) : ((Jvm.Cond.classLink "com/example/resultwire/resultwire/er7/PiecesIsSplitPinLaw" (14 : Nat) "com/example/resultwire/resultwire/er7/Pieces") : Jvm.Cond).before a0 Z = true := hw _ (List.mem_of_getElem? (i := 30) rfl)
theorem w_31 {Z : State} {a0 : Array Value} (hw : ∀ d ∈ tables_1, d.before a0 Z = true) : ((Jvm.Cond.instantiable "com/example/resultwire/resultwire/er7/Pieces" (7 : Nat)) : Jvm.Cond).before a0 Z = true := hw _ (List.mem_of_getElem? (i := 31) rfl)
theorem w_32 {Z : State} {a0 : Array Value} (hw : ∀ d ∈ tables_1, d.before a0 Z = true) : ((Jvm.Cond.initialized "com/example/resultwire/resultwire/er7/Pieces") : Jvm.Cond).before a0 Z = true := hw _ (List.mem_of_getElem? (i := 32) rfl)
theorem w_33 {Z : State} {a0 : Array Value} (hw : ∀ d ∈ tables_1, d.before a0 Z = true) : ((Jvm.Cond.methodLink "com/example/resultwire/resultwire/er7/PiecesIsSplitPinLaw" (16 : Nat) ({ cls := "com/example/resultwire/resultwire/er7/Pieces", name := "<init>", desc := "(Ljava/lang/String;III)V" } : Jvm.MethodName)) : Jvm.Cond).before a0 Z = true := hw _ (List.mem_of_getElem? (i := 33) rfl)
theorem w_34 {Z : State} {a0 : Array Value} (hw : ∀ d ∈ tables_1, d.before a0 Z = true) : ((Jvm.Cond.instanceMethod ({ cls := "com/example/resultwire/resultwire/er7/Pieces", name := "<init>", desc := "(Ljava/lang/String;III)V" } : Jvm.MethodName)) : Jvm.Cond).before a0 Z = true := hw _ (List.mem_of_getElem? (i := 34) rfl)
theorem w_35 {Z : State} {a0 : Array Value} (hw : ∀ d ∈ tables_1, d.before a0 Z = true) : ((Jvm.Cond.code ({ cls := "com/example/resultwire/resultwire/er7/Pieces", name := "<init>", desc := "(Ljava/lang/String;III)V" } : Jvm.MethodName) prog_141_method_1_code (5 : Nat) (Option.none : Option Jvm.ClassFile.FieldType)) : Jvm.Cond).before a0 Z = true := hw _ (List.mem_of_getElem? (i := 35) rfl)
theorem w_36 {Z : State} {a0 : Array Value} (hw : ∀ d ∈ tables_1, d.before a0 Z = true) : ((Jvm.Cond.methodLink "com/example/resultwire/resultwire/er7/Pieces" (1 : Nat) ({ cls := "java/lang/Object", name := "<init>", desc := "()V" } : Jvm.MethodName)) : Jvm.Cond).before a0 Z = true := hw _ (List.mem_of_getElem? (i := 36) rfl)
theorem w_37 {Z : State} {a0 : Array Value} (hw : ∀ d ∈ tables_1, d.before a0 Z = true) : ((Jvm.Cond.fieldLink "com/example/resultwire/resultwire/er7/Pieces" (7 : Nat) "com/example/resultwire/resultwire/er7/Pieces" "m_sText" "Ljava/lang/String;") : Jvm.Cond).before a0 Z = true := hw _ (List.mem_of_getElem? (i := 37) rfl)
theorem w_38 {Z : State} {a0 : Array Value} (hw : ∀ d ∈ tables_1, d.before a0 Z = true) : ((Jvm.Cond.laysFinal "com/example/resultwire/resultwire/er7/Pieces" "com/example/resultwire/resultwire/er7/Pieces" "m_sText" "Ljava/lang/String;") : Jvm.Cond).before a0 Z = true := hw _ (List.mem_of_getElem? (i := 38) rfl)
theorem w_39 {Z : State} {a0 : Array Value} (hw : ∀ d ∈ tables_1, d.before a0 Z = true) : ((Jvm.Cond.fieldLink "com/example/resultwire/resultwire/er7/Pieces" (13 : Nat) "com/example/resultwire/resultwire/er7/Pieces" "m_nDelimiter" "I") : Jvm.Cond).before a0 Z = true := hw _ (List.mem_of_getElem? (i := 39) rfl)
theorem w_40 {Z : State} {a0 : Array Value} (hw : ∀ d ∈ tables_1, d.before a0 Z = true) : ((Jvm.Cond.laysFinal "com/example/resultwire/resultwire/er7/Pieces" "com/example/resultwire/resultwire/er7/Pieces" "m_nDelimiter" "I") : Jvm.Cond).before a0 Z = true := hw _ (List.mem_of_getElem? (i := 40) rfl)
theorem w_41 {Z : State} {a0 : Array Value} (hw : ∀ d ∈ tables_1, d.before a0 Z = true) : ((Jvm.Cond.fieldLink "com/example/resultwire/resultwire/er7/Pieces" (17 : Nat) "com/example/resultwire/resultwire/er7/Pieces" "m_nTo" "I") : Jvm.Cond).before a0 Z = true := hw _ (List.mem_of_getElem? (i := 41) rfl)
theorem w_42 {Z : State} {a0 : Array Value} (hw : ∀ d ∈ tables_1, d.before a0 Z = true) : ((Jvm.Cond.laysFinal "com/example/resultwire/resultwire/er7/Pieces" "com/example/resultwire/resultwire/er7/Pieces" "m_nTo" "I") : Jvm.Cond).before a0 Z = true := hw _ (List.mem_of_getElem? (i := 42) rfl)
theorem w_43 {Z : State} {a0 : Array Value} (hw : ∀ d ∈ tables_1, d.before a0 Z = true) : ((Jvm.Cond.fieldLink "com/example/resultwire/resultwire/er7/Pieces" (20 : Nat) "com/example/resultwire/resultwire/er7/Pieces" "m_nFrom" "I") : Jvm.Cond).before a0 Z = true := hw _ (List.mem_of_getElem? (i := 43) rfl)
theorem w_44 {Z : State} {a0 : Array Value} (hw : ∀ d ∈ tables_1, d.before a0 Z = true) : ((Jvm.Cond.lays "com/example/resultwire/resultwire/er7/Pieces" "com/example/resultwire/resultwire/er7/Pieces" "m_nFrom" "I") : Jvm.Cond).before a0 Z = true := hw _ (List.mem_of_getElem? (i := 44) rfl)
theorem w_45 {Z : State} {a0 : Array Value} (hw : ∀ d ∈ tables_1, d.before a0 Z = true) : ((Jvm.Cond.fieldLink "com/example/resultwire/resultwire/er7/Pieces" (23 : Nat) "com/example/resultwire/resultwire/er7/Pieces" "m_nStart" "I") : Jvm.Cond).before a0 Z = true := hw _ (List.mem_of_getElem? (i := 45) rfl)
theorem w_46 {Z : State} {a0 : Array Value} (hw : ∀ d ∈ tables_1, d.before a0 Z = true) : ((Jvm.Cond.lays "com/example/resultwire/resultwire/er7/Pieces" "com/example/resultwire/resultwire/er7/Pieces" "m_nStart" "I") : Jvm.Cond).before a0 Z = true := hw _ (List.mem_of_getElem? (i := 46) rfl)
theorem w_47 {Z : State} {a0 : Array Value} (hw : ∀ d ∈ tables_1, d.before a0 Z = true) : ((Jvm.Cond.fieldLink "com/example/resultwire/resultwire/er7/Pieces" (26 : Nat) "com/example/resultwire/resultwire/er7/Pieces" "m_nEnd" "I") : Jvm.Cond).before a0 Z = true := hw _ (List.mem_of_getElem? (i := 47) rfl)
theorem w_48 {Z : State} {a0 : Array Value} (hw : ∀ d ∈ tables_1, d.before a0 Z = true) : ((Jvm.Cond.lays "com/example/resultwire/resultwire/er7/Pieces" "com/example/resultwire/resultwire/er7/Pieces" "m_nEnd" "I") : Jvm.Cond).before a0 Z = true := hw _ (List.mem_of_getElem? (i := 48) rfl)
theorem w_49 {Z : State} {a0 : Array Value} (hw : ∀ d ∈ tables_1, d.before a0 Z = true) : ((Jvm.Cond.methodLink "com/example/resultwire/resultwire/er7/PiecesIsSplitPinLaw" (19 : Nat) ({ cls := "com/example/resultwire/resultwire/er7/Pieces", name := "hasNext", desc := "()Z" } : Jvm.MethodName)) : Jvm.Cond).before a0 Z = true := hw _ (List.mem_of_getElem? (i := 49) rfl)
theorem w_50 {Z : State} {a0 : Array Value} (hw : ∀ d ∈ tables_1, d.before a0 Z = true) : ((Jvm.Cond.declares ({ cls := "com/example/resultwire/resultwire/er7/Pieces", name := "hasNext", desc := "()Z" } : Jvm.MethodName)) : Jvm.Cond).before a0 Z = true := hw _ (List.mem_of_getElem? (i := 50) rfl)
theorem w_51 {Z : State} {a0 : Array Value} (hw : ∀ d ∈ tables_1, d.before a0 Z = true) : ((Jvm.Cond.instanceMethod ({ cls := "com/example/resultwire/resultwire/er7/Pieces", name := "hasNext", desc := "()Z" } : Jvm.MethodName)) : Jvm.Cond).before a0 Z = true := hw _ (List.mem_of_getElem? (i := 51) rfl)
theorem w_52 {Z : State} {a0 : Array Value} (hw : ∀ d ∈ tables_1, d.before a0 Z = true) : ((Jvm.Cond.selects "com/example/resultwire/resultwire/er7/Pieces" ({ cls := "com/example/resultwire/resultwire/er7/Pieces", name := "hasNext", desc := "()Z" } : Jvm.MethodName) ({ cls := "com/example/resultwire/resultwire/er7/Pieces", name := "hasNext", desc := "()Z" } : Jvm.MethodName)) : Jvm.Cond).before a0 Z = true := hw _ (List.mem_of_getElem? (i := 52) rfl)
theorem w_53 {Z : State} {a0 : Array Value} (hw : ∀ d ∈ tables_1, d.before a0 Z = true) : ((Jvm.Cond.code ({ cls := "com/example/resultwire/resultwire/er7/Pieces", name := "hasNext", desc := "()Z" } : Jvm.MethodName) prog_141_method_9_code (1 : Nat) (Option.some Jvm.ClassFile.FieldType.boolean)) : Jvm.Cond).before a0 Z = true := hw _ (List.mem_of_getElem? (i := 53) rfl)
theorem w_54 {Z : State} {a0 : Array Value} (hw : ∀ d ∈ tables_1, d.before a0 Z = true) : ((Jvm.Cond.methodLink "com/example/resultwire/resultwire/er7/PiecesIsSplitPinLaw" (23 : Nat) ({ cls := "com/example/resultwire/resultwire/er7/Pieces", name := "advance", desc := "()V" } : Jvm.MethodName)) : Jvm.Cond).before a0 Z = true := hw _ (List.mem_of_getElem? (i := 54) rfl)
theorem w_55 {Z : State} {a0 : Array Value} (hw : ∀ d ∈ tables_1, d.before a0 Z = true) : ((Jvm.Cond.declares ({ cls := "com/example/resultwire/resultwire/er7/Pieces", name := "advance", desc := "()V" } : Jvm.MethodName)) : Jvm.Cond).before a0 Z = true := hw _ (List.mem_of_getElem? (i := 55) rfl)
theorem w_56 {Z : State} {a0 : Array Value} (hw : ∀ d ∈ tables_1, d.before a0 Z = true) : ((Jvm.Cond.instanceMethod ({ cls := "com/example/resultwire/resultwire/er7/Pieces", name := "advance", desc := "()V" } : Jvm.MethodName)) : Jvm.Cond).before a0 Z = true := hw _ (List.mem_of_getElem? (i := 56) rfl)
theorem w_57 {Z : State} {a0 : Array Value} (hw : ∀ d ∈ tables_1, d.before a0 Z = true) : ((Jvm.Cond.selects "com/example/resultwire/resultwire/er7/Pieces" ({ cls := "com/example/resultwire/resultwire/er7/Pieces", name := "advance", desc := "()V" } : Jvm.MethodName) ({ cls := "com/example/resultwire/resultwire/er7/Pieces", name := "advance", desc := "()V" } : Jvm.MethodName)) : Jvm.Cond).before a0 Z = true := hw _ (List.mem_of_getElem? (i := 57) rfl)
theorem w_58 {Z : State} {a0 : Array Value} (hw : ∀ d ∈ tables_1, d.before a0 Z = true) : ((Jvm.Cond.code ({ cls := "com/example/resultwire/resultwire/er7/Pieces", name := "advance", desc := "()V" } : Jvm.MethodName) prog_141_method_8_code (1 : Nat) (Option.none : Option Jvm.ClassFile.FieldType)) : Jvm.Cond).before a0 Z = true := hw _ (List.mem_of_getElem? (i := 58) rfl)
theorem w_59 {Z : State} {a0 : Array Value} (hw : ∀ d ∈ tables_1, d.before a0 Z = true) : ((Jvm.Cond.methodLink "com/example/resultwire/resultwire/er7/Pieces" (53 : Nat) ({ cls := "com/example/resultwire/resultwire/er7/Pieces", name := "hasNext", desc := "()Z" } : Jvm.MethodName)) : Jvm.Cond).before a0 Z = true := hw _ (List.mem_of_getElem? (i := 59) rfl)
theorem w_60 {Z : State} {a0 : Array Value} (hw : ∀ d ∈ tables_1, d.before a0 Z = true) : ((Jvm.Cond.methodLink "com/example/resultwire/resultwire/er7/Pieces" (60 : Nat) ({ cls := "com/example/resultwire/resultwire/er7/Pieces", name := "endOf", desc := "(Ljava/lang/String;III)I" } : Jvm.MethodName)) : Jvm.Cond).before a0 Z = true := hw _ (List.mem_of_getElem? (i := 60) rfl)
theorem w_61 {Z : State} {a0 : Array Value} (hw : ∀ d ∈ tables_1, d.before a0 Z = true) : ((Jvm.Cond.static ({ cls := "com/example/resultwire/resultwire/er7/Pieces", name := "endOf", desc := "(Ljava/lang/String;III)I" } : Jvm.MethodName)) : Jvm.Cond).before a0 Z = true := hw _ (List.mem_of_getElem? (i := 61) rfl)
theorem w_62 {Z : State} {a0 : Array Value} (hw : ∀ d ∈ tables_1, d.before a0 Z = true) : ((Jvm.Cond.code ({ cls := "com/example/resultwire/resultwire/er7/Pieces", name := "endOf", desc := "(Ljava/lang/String;III)I" } : Jvm.MethodName) prog_141_method_3_code (6 : Nat) (Option.some Jvm.ClassFile.FieldType.int)) : Jvm.Cond).before a0 Z = true := hw _ (List.mem_of_getElem? (i := 62) rfl)
theorem w_63 {Z : State} {a0 : Array Value} (hw : ∀ d ∈ tables_1, d.before a0 Z = true) : ((Jvm.Cond.methodLink "com/example/resultwire/resultwire/er7/Pieces" (36 : Nat) ({ cls := "java/lang/String", name := "length", desc := "()I" } : Jvm.MethodName)) : Jvm.Cond).before a0 Z = true := hw _ (List.mem_of_getElem? (i := 63) rfl)
theorem w_64 {Z : State} {a0 : Array Value} (hw : ∀ d ∈ tables_1, d.before a0 Z = true) : ((Jvm.Cond.declares ({ cls := "java/lang/String", name := "length", desc := "()I" } : Jvm.MethodName)) : Jvm.Cond).before a0 Z = true := hw _ (List.mem_of_getElem? (i := 64) rfl)
theorem w_65 {Z : State} {a0 : Array Value} (hw : ∀ d ∈ tables_1, d.before a0 Z = true) : ((Jvm.Cond.instanceMethod ({ cls := "java/lang/String", name := "length", desc := "()I" } : Jvm.MethodName)) : Jvm.Cond).before a0 Z = true := hw _ (List.mem_of_getElem? (i := 65) rfl)
theorem w_66 {Z : State} {a0 : Array Value} (hw : ∀ d ∈ tables_1, d.before a0 Z = true) : ((Jvm.Cond.selects "java/lang/String" ({ cls := "java/lang/String", name := "length", desc := "()I" } : Jvm.MethodName) ({ cls := "java/lang/String", name := "length", desc := "()I" } : Jvm.MethodName)) : Jvm.Cond).before a0 Z = true := hw _ (List.mem_of_getElem? (i := 66) rfl)
theorem w_67 {Z : State} {a0 : Array Value} (hw : ∀ d ∈ tables_1, d.before a0 Z = true) : ((Jvm.Cond.code ({ cls := "java/lang/String", name := "length", desc := "()I" } : Jvm.MethodName) jdk_42_method_54_code (1 : Nat) (Option.some Jvm.ClassFile.FieldType.int)) : Jvm.Cond).before a0 Z = true := hw _ (List.mem_of_getElem? (i := 67) rfl)
theorem w_73 {Z : State} {a0 : Array Value} (hw : ∀ d ∈ tables_1, d.before a0 Z = true) : ((Jvm.Cond.fieldLink "com/example/resultwire/resultwire/er7/Pieces" (50 : Nat) "com/example/resultwire/resultwire/er7/Pieces" "m_nNumber" "I") : Jvm.Cond).before a0 Z = true := hw _ (List.mem_of_getElem? (i := 73) rfl)
theorem w_74 {Z : State} {a0 : Array Value} (hw : ∀ d ∈ tables_1, d.before a0 Z = true) : ((Jvm.Cond.lays "com/example/resultwire/resultwire/er7/Pieces" "com/example/resultwire/resultwire/er7/Pieces" "m_nNumber" "I") : Jvm.Cond).before a0 Z = true := hw _ (List.mem_of_getElem? (i := 74) rfl)
theorem w_75 {Z : State} {a0 : Array Value} (hw : ∀ d ∈ tables_1, d.before a0 Z = true) : ((Jvm.Cond.methodLink "com/example/resultwire/resultwire/er7/PiecesIsSplitPinLaw" (26 : Nat) ({ cls := "com/example/resultwire/resultwire/er7/PiecesIsSplitPinLaw", name := "hit", desc := "(CIIII)Z" } : Jvm.MethodName)) : Jvm.Cond).before a0 Z = true := hw _ (List.mem_of_getElem? (i := 75) rfl)
theorem w_76 {Z : State} {a0 : Array Value} (hw : ∀ d ∈ tables_1, d.before a0 Z = true) : ((Jvm.Cond.static ({ cls := "com/example/resultwire/resultwire/er7/PiecesIsSplitPinLaw", name := "hit", desc := "(CIIII)Z" } : Jvm.MethodName)) : Jvm.Cond).before a0 Z = true := hw _ (List.mem_of_getElem? (i := 76) rfl)
theorem w_77 {Z : State} {a0 : Array Value} (hw : ∀ d ∈ tables_1, d.before a0 Z = true) : ((Jvm.Cond.initialized "com/example/resultwire/resultwire/er7/PiecesIsSplitPinLaw") : Jvm.Cond).before a0 Z = true := hw _ (List.mem_of_getElem? (i := 77) rfl)
theorem w_78 {Z : State} {a0 : Array Value} (hw : ∀ d ∈ tables_1, d.before a0 Z = true) : ((Jvm.Cond.code ({ cls := "com/example/resultwire/resultwire/er7/PiecesIsSplitPinLaw", name := "hit", desc := "(CIIII)Z" } : Jvm.MethodName) method_3_code (5 : Nat) (Option.some Jvm.ClassFile.FieldType.boolean)) : Jvm.Cond).before a0 Z = true := hw _ (List.mem_of_getElem? (i := 78) rfl)
theorem w_79 {Z : State} {a0 : Array Value} (hw : ∀ d ∈ tables_1, d.before a0 Z = true) : ((Jvm.Cond.methodLink "com/example/resultwire/resultwire/er7/PiecesIsSplitPinLaw" (32 : Nat) ({ cls := "com/example/resultwire/resultwire/er7/Pieces", name := "isSplit", desc := "()Z" } : Jvm.MethodName)) : Jvm.Cond).before a0 Z = true := hw _ (List.mem_of_getElem? (i := 79) rfl)
theorem w_80 {Z : State} {a0 : Array Value} (hw : ∀ d ∈ tables_1, d.before a0 Z = true) : ((Jvm.Cond.declares ({ cls := "com/example/resultwire/resultwire/er7/Pieces", name := "isSplit", desc := "()Z" } : Jvm.MethodName)) : Jvm.Cond).before a0 Z = true := hw _ (List.mem_of_getElem? (i := 80) rfl)
theorem w_81 {Z : State} {a0 : Array Value} (hw : ∀ d ∈ tables_1, d.before a0 Z = true) : ((Jvm.Cond.instanceMethod ({ cls := "com/example/resultwire/resultwire/er7/Pieces", name := "isSplit", desc := "()Z" } : Jvm.MethodName)) : Jvm.Cond).before a0 Z = true := hw _ (List.mem_of_getElem? (i := 81) rfl)
theorem w_82 {Z : State} {a0 : Array Value} (hw : ∀ d ∈ tables_1, d.before a0 Z = true) : ((Jvm.Cond.selects "com/example/resultwire/resultwire/er7/Pieces" ({ cls := "com/example/resultwire/resultwire/er7/Pieces", name := "isSplit", desc := "()Z" } : Jvm.MethodName) ({ cls := "com/example/resultwire/resultwire/er7/Pieces", name := "isSplit", desc := "()Z" } : Jvm.MethodName)) : Jvm.Cond).before a0 Z = true := hw _ (List.mem_of_getElem? (i := 82) rfl)
theorem w_83 {Z : State} {a0 : Array Value} (hw : ∀ d ∈ tables_1, d.before a0 Z = true) : ((Jvm.Cond.code ({ cls := "com/example/resultwire/resultwire/er7/Pieces", name := "isSplit", desc := "()Z" } : Jvm.MethodName) prog_141_method_4_code (1 : Nat) (Option.some Jvm.ClassFile.FieldType.boolean)) : Jvm.Cond).before a0 Z = true := hw _ (List.mem_of_getElem? (i := 83) rfl)
theorem w_84 {Z : State} {a0 : Array Value} (hw : ∀ d ∈ tables_1, d.before a0 Z = true) : ((Jvm.Cond.methodLink "com/example/resultwire/resultwire/er7/Pieces" (42 : Nat) ({ cls := "java/lang/String", name := "indexOf", desc := "(II)I" } : Jvm.MethodName)) : Jvm.Cond).before a0 Z = true := hw _ (List.mem_of_getElem? (i := 84) rfl)
theorem w_85 {Z : State} {a0 : Array Value} (hw : ∀ d ∈ tables_1, d.before a0 Z = true) : ((Jvm.Cond.declares ({ cls := "java/lang/String", name := "indexOf", desc := "(II)I" } : Jvm.MethodName)) : Jvm.Cond).before a0 Z = true := hw _ (List.mem_of_getElem? (i := 85) rfl)
theorem w_86 {Z : State} {a0 : Array Value} (hw : ∀ d ∈ tables_1, d.before a0 Z = true) : ((Jvm.Cond.instanceMethod ({ cls := "java/lang/String", name := "indexOf", desc := "(II)I" } : Jvm.MethodName)) : Jvm.Cond).before a0 Z = true := hw _ (List.mem_of_getElem? (i := 86) rfl)
theorem w_87 {Z : State} {a0 : Array Value} (hw : ∀ d ∈ tables_1, d.before a0 Z = true) : ((Jvm.Cond.selects "java/lang/String" ({ cls := "java/lang/String", name := "indexOf", desc := "(II)I" } : Jvm.MethodName) ({ cls := "java/lang/String", name := "indexOf", desc := "(II)I" } : Jvm.MethodName)) : Jvm.Cond).before a0 Z = true := hw _ (List.mem_of_getElem? (i := 87) rfl)
theorem w_88 {Z : State} {a0 : Array Value} (hw : ∀ d ∈ tables_1, d.before a0 Z = true) : ((Jvm.Cond.code ({ cls := "java/lang/String", name := "indexOf", desc := "(II)I" } : Jvm.MethodName) jdk_42_method_80_code (3 : Nat) (Option.some Jvm.ClassFile.FieldType.int)) : Jvm.Cond).before a0 Z = true := hw _ (List.mem_of_getElem? (i := 88) rfl)
theorem w_89 {Z : State} {a0 : Array Value} (hw : ∀ d ∈ tables_1, d.before a0 Z = true) : ((Jvm.Cond.methodLink "java/lang/String" (492 : Nat) ({ cls := "java/lang/String", name := "isLatin1", desc := "()Z" } : Jvm.MethodName)) : Jvm.Cond).before a0 Z = true := hw _ (List.mem_of_getElem? (i := 89) rfl)
theorem w_90 {Z : State} {a0 : Array Value} (hw : ∀ d ∈ tables_1, d.before a0 Z = true) : ((Jvm.Cond.declares ({ cls := "java/lang/String", name := "isLatin1", desc := "()Z" } : Jvm.MethodName)) : Jvm.Cond).before a0 Z = true := hw _ (List.mem_of_getElem? (i := 90) rfl)
theorem w_91 {Z : State} {a0 : Array Value} (hw : ∀ d ∈ tables_1, d.before a0 Z = true) : ((Jvm.Cond.instanceMethod ({ cls := "java/lang/String", name := "isLatin1", desc := "()Z" } : Jvm.MethodName)) : Jvm.Cond).before a0 Z = true := hw _ (List.mem_of_getElem? (i := 91) rfl)
theorem w_92 {Z : State} {a0 : Array Value} (hw : ∀ d ∈ tables_1, d.before a0 Z = true) : ((Jvm.Cond.selects "java/lang/String" ({ cls := "java/lang/String", name := "isLatin1", desc := "()Z" } : Jvm.MethodName) ({ cls := "java/lang/String", name := "isLatin1", desc := "()Z" } : Jvm.MethodName)) : Jvm.Cond).before a0 Z = true := hw _ (List.mem_of_getElem? (i := 92) rfl)
theorem w_93 {Z : State} {a0 : Array Value} (hw : ∀ d ∈ tables_1, d.before a0 Z = true) : ((Jvm.Cond.code ({ cls := "java/lang/String", name := "isLatin1", desc := "()Z" } : Jvm.MethodName) jdk_42_method_154_code (1 : Nat) (Option.some Jvm.ClassFile.FieldType.boolean)) : Jvm.Cond).before a0 Z = true := hw _ (List.mem_of_getElem? (i := 93) rfl)
theorem w_94 {Z : State} {a0 : Array Value} (hw : ∀ d ∈ tables_1, d.before a0 Z = true) : ((Jvm.Cond.methodLink "java/lang/String" (505 : Nat) ({ cls := "java/lang/String", name := "length", desc := "()I" } : Jvm.MethodName)) : Jvm.Cond).before a0 Z = true := hw _ (List.mem_of_getElem? (i := 94) rfl)
theorem w_95 {Z : State} {a0 : Array Value} (hw : ∀ d ∈ tables_1, d.before a0 Z = true) : ((Jvm.Cond.methodLink "java/lang/String" (637 : Nat) ({ cls := "java/lang/StringLatin1", name := "indexOf", desc := "([BIII)I" } : Jvm.MethodName)) : Jvm.Cond).before a0 Z = true := hw _ (List.mem_of_getElem? (i := 95) rfl)
theorem w_96 {Z : State} {a0 : Array Value} (hw : ∀ d ∈ tables_1, d.before a0 Z = true) : ((Jvm.Cond.static ({ cls := "java/lang/StringLatin1", name := "indexOf", desc := "([BIII)I" } : Jvm.MethodName)) : Jvm.Cond).before a0 Z = true := hw _ (List.mem_of_getElem? (i := 96) rfl)
theorem w_97 {Z : State} {a0 : Array Value} (hw : ∀ d ∈ tables_1, d.before a0 Z = true) : ((Jvm.Cond.initialized "java/lang/StringLatin1") : Jvm.Cond).before a0 Z = true := hw _ (List.mem_of_getElem? (i := 97) rfl)
theorem w_98 {Z : State} {a0 : Array Value} (hw : ∀ d ∈ tables_1, d.before a0 Z = true) : ((Jvm.Cond.code ({ cls := "java/lang/StringLatin1", name := "indexOf", desc := "([BIII)I" } : Jvm.MethodName) jdk_43_method_22_code (4 : Nat) (Option.some Jvm.ClassFile.FieldType.int)) : Jvm.Cond).before a0 Z = true := hw _ (List.mem_of_getElem? (i := 98) rfl)
theorem w_99 {Z : State} {a0 : Array Value} (hw : ∀ d ∈ tables_1, d.before a0 Z = true) : ((Jvm.Cond.methodLink "java/lang/StringLatin1" (88 : Nat) ({ cls := "java/lang/StringLatin1", name := "canEncode", desc := "(I)Z" } : Jvm.MethodName)) : Jvm.Cond).before a0 Z = true := hw _ (List.mem_of_getElem? (i := 99) rfl)
theorem w_100 {Z : State} {a0 : Array Value} (hw : ∀ d ∈ tables_1, d.before a0 Z = true) : ((Jvm.Cond.static ({ cls := "java/lang/StringLatin1", name := "canEncode", desc := "(I)Z" } : Jvm.MethodName)) : Jvm.Cond).before a0 Z = true := hw _ (List.mem_of_getElem? (i := 100) rfl)
theorem w_101 {Z : State} {a0 : Array Value} (hw : ∀ d ∈ tables_1, d.before a0 Z = true) : ((Jvm.Cond.code ({ cls := "java/lang/StringLatin1", name := "canEncode", desc := "(I)Z" } : Jvm.MethodName) jdk_43_method_4_code (1 : Nat) (Option.some Jvm.ClassFile.FieldType.boolean)) : Jvm.Cond).before a0 Z = true := hw _ (List.mem_of_getElem? (i := 101) rfl)
theorem w_102 {Z : State} {a0 : Array Value} (hw : ∀ d ∈ tables_1, d.before a0 Z = true) : ((Jvm.Cond.methodLink "java/lang/StringLatin1" (92 : Nat) ({ cls := "java/lang/Math", name := "max", desc := "(II)I" } : Jvm.MethodName)) : Jvm.Cond).before a0 Z = true := hw _ (List.mem_of_getElem? (i := 102) rfl)
theorem w_103 {Z : State} {a0 : Array Value} (hw : ∀ d ∈ tables_1, d.before a0 Z = true) : ((Jvm.Cond.static ({ cls := "java/lang/Math", name := "max", desc := "(II)I" } : Jvm.MethodName)) : Jvm.Cond).before a0 Z = true := hw _ (List.mem_of_getElem? (i := 103) rfl)
theorem w_104 {Z : State} {a0 : Array Value} (hw : ∀ d ∈ tables_1, d.before a0 Z = true) : ((Jvm.Cond.initialized "java/lang/Math") : Jvm.Cond).before a0 Z = true := hw _ (List.mem_of_getElem? (i := 104) rfl)
theorem w_105 {Z : State} {a0 : Array Value} (hw : ∀ d ∈ tables_1, d.before a0 Z = true) : ((Jvm.Cond.code ({ cls := "java/lang/Math", name := "max", desc := "(II)I" } : Jvm.MethodName) jdk_29_method_65_code (2 : Nat) (Option.some Jvm.ClassFile.FieldType.int)) : Jvm.Cond).before a0 Z = true := hw _ (List.mem_of_getElem? (i := 105) rfl)
theorem w_106 {Z : State} {a0 : Array Value} (hw : ∀ d ∈ tables_1, d.before a0 Z = true) : ((Jvm.Cond.methodLink "java/lang/StringLatin1" (38 : Nat) ({ cls := "java/lang/Math", name := "min", desc := "(II)I" } : Jvm.MethodName)) : Jvm.Cond).before a0 Z = true := hw _ (List.mem_of_getElem? (i := 106) rfl)
theorem w_107 {Z : State} {a0 : Array Value} (hw : ∀ d ∈ tables_1, d.before a0 Z = true) : ((Jvm.Cond.static ({ cls := "java/lang/Math", name := "min", desc := "(II)I" } : Jvm.MethodName)) : Jvm.Cond).before a0 Z = true := hw _ (List.mem_of_getElem? (i := 107) rfl)
theorem w_108 {Z : State} {a0 : Array Value} (hw : ∀ d ∈ tables_1, d.before a0 Z = true) : ((Jvm.Cond.code ({ cls := "java/lang/Math", name := "min", desc := "(II)I" } : Jvm.MethodName) jdk_29_method_69_code (2 : Nat) (Option.some Jvm.ClassFile.FieldType.int)) : Jvm.Cond).before a0 Z = true := hw _ (List.mem_of_getElem? (i := 108) rfl)
theorem w_109 {Z : State} {a0 : Array Value} (hw : ∀ d ∈ tables_1, d.before a0 Z = true) : ((Jvm.Cond.methodLink "java/lang/StringLatin1" (95 : Nat) ({ cls := "java/lang/StringLatin1", name := "indexOfChar", desc := "([BIII)I" } : Jvm.MethodName)) : Jvm.Cond).before a0 Z = true := hw _ (List.mem_of_getElem? (i := 109) rfl)
theorem w_110 {Z : State} {a0 : Array Value} (hw : ∀ d ∈ tables_1, d.before a0 Z = true) : ((Jvm.Cond.static ({ cls := "java/lang/StringLatin1", name := "indexOfChar", desc := "([BIII)I" } : Jvm.MethodName)) : Jvm.Cond).before a0 Z = true := hw _ (List.mem_of_getElem? (i := 110) rfl)
theorem w_111 {Z : State} {a0 : Array Value} (hw : ∀ d ∈ tables_1, d.before a0 Z = true) : ((Jvm.Cond.code ({ cls := "java/lang/StringLatin1", name := "indexOfChar", desc := "([BIII)I" } : Jvm.MethodName) jdk_43_method_23_code (6 : Nat) (Option.some Jvm.ClassFile.FieldType.int)) : Jvm.Cond).before a0 Z = true := hw _ (List.mem_of_getElem? (i := 111) rfl)
theorem w_112 {Z : State} {a0 : Array Value} (hw : ∀ d ∈ tables_1, d.before a0 Z = true) : ((Jvm.Cond.methodLink "com/example/resultwire/resultwire/er7/Pieces" (46 : Nat) ({ cls := "java/lang/String", name := "charAt", desc := "(I)C" } : Jvm.MethodName)) : Jvm.Cond).before a0 Z = true := hw _ (List.mem_of_getElem? (i := 112) rfl)
theorem w_113 {Z : State} {a0 : Array Value} (hw : ∀ d ∈ tables_1, d.before a0 Z = true) : ((Jvm.Cond.declares ({ cls := "java/lang/String", name := "charAt", desc := "(I)C" } : Jvm.MethodName)) : Jvm.Cond).before a0 Z = true := hw _ (List.mem_of_getElem? (i := 113) rfl)
theorem w_114 {Z : State} {a0 : Array Value} (hw : ∀ d ∈ tables_1, d.before a0 Z = true) : ((Jvm.Cond.instanceMethod ({ cls := "java/lang/String", name := "charAt", desc := "(I)C" } : Jvm.MethodName)) : Jvm.Cond).before a0 Z = true := hw _ (List.mem_of_getElem? (i := 114) rfl)
theorem w_115 {Z : State} {a0 : Array Value} (hw : ∀ d ∈ tables_1, d.before a0 Z = true) : ((Jvm.Cond.selects "java/lang/String" ({ cls := "java/lang/String", name := "charAt", desc := "(I)C" } : Jvm.MethodName) ({ cls := "java/lang/String", name := "charAt", desc := "(I)C" } : Jvm.MethodName)) : Jvm.Cond).before a0 Z = true := hw _ (List.mem_of_getElem? (i := 115) rfl)
theorem w_116 {Z : State} {a0 : Array Value} (hw : ∀ d ∈ tables_1, d.before a0 Z = true) : ((Jvm.Cond.code ({ cls := "java/lang/String", name := "charAt", desc := "(I)C" } : Jvm.MethodName) jdk_42_method_56_code (2 : Nat) (Option.some Jvm.ClassFile.FieldType.char)) : Jvm.Cond).before a0 Z = true := hw _ (List.mem_of_getElem? (i := 116) rfl)
theorem own_big {c : Int32} (q : (65535 : Int32) < c) : (255 : Int32) < c := by
  rw [Int32.lt_iff_toInt_lt] at q ⊢
  have e1 : (65535 : Int32).toInt = 65535 := by decide
  have e2 : (255 : Int32).toInt = 255 := by decide
  omega
def own_b8 (cs : List Int32) : List Value := (cs.map fun c => c.toInt8.toInt32).map Value.int
def own_Str (Z : State) (h : Heap) (x t : Addr) (k : ClassId) (cs : List Int32) : Prop := Exa Z h x "java/lang/String" ∧ Fld Z h x "java/lang/String" "value" "[B" (.ref t) ∧ Fld Z h x "java/lang/String" "coder" "B" (.int (0 : Int32)) ∧ Arv Z h t k .byte (Int32.ofNat cs.length) (own_b8 cs) (.int 0) ∧ cs.length ≤ 4000 ∧ ∀ c ∈ cs, ¬ c < 0 ∧ ¬ (255 : Int32) < c
theorem own_up {Z : State} {h : Heap} {x t : Addr} {k : ClassId} {cs : List Int32} (S : own_Str Z h x t k cs) : ∀ c ∈ cs, ¬ c < 0 ∧ ¬ (65535 : Int32) < c := fun c hc => ⟨(S.2.2.2.2.2 c hc).1, fun q => (S.2.2.2.2.2 c hc).2 (own_big q)⟩
theorem own_w_backV {Z : State} {a0 : Array Value} (hw : ∀ d ∈ tables_1, d.before a0 Z = true) : ∀ d ∈ StrChars.Road.words, d.before a0 Z = true := fun d hd => hw d ((by decide +kernel : ∀ d ∈ StrChars.Road.words, d ∈ tables_1) d hd)
theorem own_w_lenW {Z : State} {a0 : Array Value} (hw : ∀ d ∈ tables_1, d.before a0 Z = true) : ∀ d ∈ StrChars.Road.wordsLen, d.before a0 Z = true := fun d hd => hw d ((by decide +kernel : ∀ d ∈ StrChars.Road.wordsLen, d ∈ tables_1) d hd)
theorem own_w_chN {Z : State} {a0 : Array Value} (hw : ∀ d ∈ tables_1, d.before a0 Z = true) : ∀ d ∈ StrChars.Road.wordsChN, d.before a0 Z = true := fun d hd => hw d ((by decide +kernel : ∀ d ∈ StrChars.Road.wordsChN, d ∈ tables_1) d hd)
theorem own_cod {Z : State} {h : Heap} {x t : Addr} {k : ClassId} {cs : List Int32} (S : own_Str Z h x t k cs) : StrChars.Road.CodA cs 0 (Int32.ofNat cs.length) (own_b8 cs) := StrChars.Road.codOf rfl (fun c hc => (S.2.2.2.2.2 c hc).2)
theorem own_len {p : Program} {l : Launch} {e : Env} {R : Room} {s : State} {args : Array Value} {below : List Frame} {len W : Nat} {Z : State} {a0 : Array Value} {h : Heap} (hZ : Z.Warmed39 s.vm) (hw : ∀ d ∈ tables_1, d.before a0 Z = true) {x t : Addr} {k : ClassId} {cs : List Int32} {z : Int32} (S : own_Str Z h x t k cs) (C : Sta Z h "java/lang/String" "COMPACT_STRINGS" "Z" (.int z)) (hz : ¬ (z = (0 : Int32))) (hfr : 2 ≤ R.frames) (hlo : W + 25 ≤ R.locals) :
    Back l R p e below s args (⟨"java/lang/String", "length", "()I"⟩ : MethodName) len W (fun P a => a = #[.ref x] ∧ P.U.heap = h ∧ P.cells + 0 ≤ R.cells ∧ P.slots + 0 ≤ R.slots) (fun P _ v B => ∃ L, (v = some (.int (Int32.ofNat cs.length)) ∧ L = [] ∧ B.U.heap = h) ∧ B.locs = P.locs ++ L ∧ B.cells = P.cells + 0 ∧ B.slots = P.slots + 0) :=
  StrChars.Road.lenW hZ (own_w_lenW hw) (w_2 hw) S.1 S.2.1 S.2.2.1 S.2.2.2.1 (own_cod S) (own_up S) C hz S.2.2.2.2.1 hfr hlo
theorem own_chr {p : Program} {l : Launch} {e : Env} {R : Room} {s : State} {args : Array Value} {below : List Frame} {len W : Nat} {Z : State} {a0 : Array Value} {h : Heap} (hZ : Z.Warmed39 s.vm) (hw : ∀ d ∈ tables_1, d.before a0 Z = true) {x t : Addr} {k : ClassId} {cs : List Int32} {z : Int32} {fm : Value} {i : Nat} {j : Int32} (S : own_Str Z h x t k cs) (C : Sta Z h "java/lang/String" "COMPACT_STRINGS" "Z" (.int z)) (hz : ¬ (z = (0 : Int32))) (F : Sta Z h "jdk/internal/util/Preconditions" "SIOOBE_FORMATTER" "Ljava/util/function/BiFunction;" fm) (rf : fm.isRef = true) (hi : i < cs.length) (hj : j = Int32.ofNat i) (hfr : 4 ≤ R.frames) (hlo : W + 53 ≤ R.locals) :
    Back l R p e below s args (⟨"java/lang/String", "charAt", "(I)C"⟩ : MethodName) len W (fun P a => a = #[.ref x, .int j] ∧ P.U.heap = h ∧ P.cells + 0 ≤ R.cells ∧ P.slots + 0 ≤ R.slots) (fun P _ v B => ∃ L, (v = some (.int (cs.getD i 0)) ∧ L = [] ∧ B.U.heap = h) ∧ B.locs = P.locs ++ L ∧ B.cells = P.cells + 0 ∧ B.slots = P.slots + 0) :=
  StrChars.Road.chN hZ (own_w_chN hw) (w_2 hw) S.1 S.2.1 S.2.2.1 S.2.2.2.1 (own_cod S) (own_up S) C hz F rf S.2.2.2.2.1 hi hj hfr hlo
theorem own_new {p : Program} {l : Launch} {e : Env} {R : Room} {s : State} {args : Array Value} {below : List Frame} {len W : Nat} {Z : State} {a0 : Array Value} {h : Heap} (hZ : Z.Warmed39 s.vm) (hw : ∀ d ∈ tables_1, d.before a0 Z = true) {x b : Addr} {kC : ClassId} {cs : List Int32} {d v0 c0 : Value} {z N : Int32} {n n0 : Nat} (hx0 : n0 ≤ x) (hh0 : n0 ≤ h.size) (E : Exa Z h x "java/lang/String") (V : Fld Z h x "java/lang/String" "value" "[B" v0) (C : Fld Z h x "java/lang/String" "coder" "B" c0) (K : Arv Z h b kC .char N (cs.map Value.int) d) (S : Sta Z h "java/lang/String" "COMPACT_STRINGS" "Z" (.int z)) (hz : ¬ (z = (0 : Int32))) (hn : cs.length = n) (hN : N = Int32.ofNat n) (l0 : 0 < n) (l2 : n ≤ 4000) (hp : ∀ c ∈ cs, ¬ c < 0 ∧ ¬ (255 : Int32) < c) (hfr : 4 ≤ R.frames) (hlo : W + 65 ≤ R.locals) :
    Back l R p e below s args (⟨"java/lang/String", "<init>", "([C)V"⟩ : MethodName) len W (fun P a => a = #[.ref x, .ref b] ∧ P.U.heap = h ∧ P.cells + 1 ≤ R.cells ∧ P.slots + n ≤ R.slots)
      (fun P _ v B => ∃ L, (v = none ∧ Fr n0 L ∧ Keep h B.U.heap [x] ∧ ∃ (t : Addr) (kb : ClassId), h.size ≤ t ∧ own_Str Z B.U.heap x t kb cs) ∧ B.locs = P.locs ++ L ∧ B.cells = P.cells + 1 ∧ B.slots = P.slots + n) := by
  refine Back.mono (StrChars.Road.backV hZ (own_w_backV hw) (w_2 hw) hx0 hh0 E V C K S hz hn hN l0 l2 hp rfl hfr hlo) (fun _ _ h => h) (fun P a v B hp' hq => ?_)
  obtain ⟨L, ⟨h1, h2, h3, h4, h5, t, kb, h6, h7, h8, h9, h10⟩, h11⟩ := hq
  subst hn hN
  exact ⟨L, ⟨h1, h2, h3, t, kb, h7, h4, h9, h5, h10, l2, hp⟩, h11⟩


def own_max (p q : Int32) : Int32 := if p < q then q else p
def own_min (p q : Int32) : Int32 := if q < p then q else p
def own_enc (p : Int32) : Int32 := if p < (0 : Int32) then 0 else if (255 : Int32) < p then 0 else 1
def own_end (cs : List Int32) (d : Int32) : Nat → Nat → Nat
  | i, 0 => i
  | i, k + 1 => if cs.getD i 0 = d then i else own_end cs d (i + 1) k
def own_ixk (cs : List Int32) (d : Int32) : Nat → Nat → Int32
  | _, 0 => -1
  | i, k + 1 => if cs.getD i 0 = d then Int32.ofNat i else own_ixk cs d (i + 1) k
theorem own_end_bd (cs : List Int32) (d : Int32) : ∀ k i, i ≤ own_end cs d i k ∧ own_end cs d i k ≤ i + k
  | 0, i => by simp [own_end]
  | k + 1, i => by
    have h := own_end_bd cs d k (i + 1)
    simp only [own_end]
    split <;> omega
theorem own_end_at (cs : List Int32) (d : Int32) : ∀ k i, own_end cs d i k < i + k → cs.getD (own_end cs d i k) 0 = d
  | 0, i => by simp [own_end]
  | k + 1, i => by
    have h := own_end_at cs d k (i + 1)
    simp only [own_end]
    split
    · rename_i q; intro _; exact q
    · intro q; exact h (by omega)
theorem own_end_no (cs : List Int32) (d : Int32) : ∀ k i j, i ≤ j → j < own_end cs d i k → ¬ cs.getD j 0 = d
  | 0, i, j => by intro h1 h2; simp only [own_end] at h2; omega
  | k + 1, i, j => by
    intro h1 h2
    simp only [own_end] at h2
    split at h2
    · omega
    · rename_i q
      by_cases e : i = j
      · subst e; exact q
      · exact own_end_no cs d k (i + 1) j (by omega) h2
theorem own_ixk_end (cs : List Int32) (d : Int32) : ∀ k i, own_ixk cs d i k = if own_end cs d i k < i + k then Int32.ofNat (own_end cs d i k) else -1
  | 0, i => by simp [own_end, own_ixk]
  | k + 1, i => by
    simp only [own_end, own_ixk]
    split
    · rw [if_pos (by omega)]
    · rw [own_ixk_end cs d k (i + 1), show i + 1 + k = i + (k + 1) by omega]
theorem own_lo8_inj {x y : Int32} (hx : ¬ x < 0 ∧ ¬ (255 : Int32) < x) (hy : ¬ y < 0 ∧ ¬ (255 : Int32) < y) (h : x.toInt8.toInt32 = y.toInt8.toInt32) : x = y := by
  rw [Int32.lt_iff_toInt_lt, Int32.lt_iff_toInt_lt] at hx hy
  have e1 : (0 : Int32).toInt = 0 := by decide
  have e2 : (255 : Int32).toInt = 255 := by decide
  rw [e1, e2] at hx hy
  have q := congrArg Int32.toInt h
  rw [Int8.toInt_toInt32, Int8.toInt_toInt32, Int32.toInt_toInt8, Int32.toInt_toInt8] at q
  refine Int32.toInt_inj.mp ?_
  simp only [Int.bmod_def] at q
  omega
theorem own_b8_get (cs : List Int32) {i : Nat} (h : i < cs.length) (h2 : cs.length ≤ 4000) : (own_b8 cs).getD (Int32.ofNat i).toNatClampNeg (.int 0) = .int (cs.getD i 0).toInt8.toInt32 := by
  rw [own_clamp (by omega), own_b8, List.map_map]
  simp [List.getD_eq_getElem?_getD, List.getElem?_map, List.getElem?_eq_getElem h]
theorem own_mem (cs : List Int32) {i : Nat} (h : i < cs.length) : cs.getD i 0 ∈ cs := by
  simp [List.getD_eq_getElem?_getD, List.getElem?_eq_getElem h]
theorem own_enc_bad {cs : List Int32} {d : Int32} (h : own_enc d = 0) (hb : ∀ c ∈ cs, ¬ c < 0 ∧ ¬ (255 : Int32) < c) : ∀ k i, i + k ≤ cs.length → own_ixk cs d i k = -1
  | 0, i => fun _ => rfl
  | k + 1, i => fun q => by
    have m := hb _ (own_mem cs (i := i) (by omega))
    have n : ¬ cs.getD i 0 = d := fun e => by
      rw [e] at m
      rw [own_enc, if_neg m.1, if_neg m.2] at h
      exact absurd h (by decide)
    rw [own_ixk, if_neg n]
    exact own_enc_bad h hb k (i + 1) (by omega)
theorem own_enc_ok {d : Int32} (h : ¬ own_enc d = 0) : ¬ d < 0 ∧ ¬ (255 : Int32) < d := by
  unfold own_enc at h
  split at h
  · exact absurd rfl h
  · split at h
    · exact absurd rfl h
    · exact ⟨by assumption, by assumption⟩
theorem own_ixk_neg {cs : List Int32} {d : Int32} {i k : Nat} (hn : i + k < 2147483648) (h : own_ixk cs d i k < 0) : own_end cs d i k = i + k := by
  rw [own_ixk_end] at h
  have b := own_end_bd cs d k i
  split at h
  · exact absurd h (own_nneg _ (by omega))
  · omega
theorem own_ixk_pos {cs : List Int32} {d : Int32} {i k : Nat} (h : ¬ own_ixk cs d i k < 0) : Int32.ofNat (own_end cs d i k) = own_ixk cs d i k := by
  rw [own_ixk_end] at h ⊢
  split at h
  · rw [if_pos (by assumption)]
  · exact absurd (by decide) h
def own_endOf (cs : List Int32) (d : Int32) (f t : Nat) : Nat := if d = (-1 : Int32) then t else own_end cs d f (t - f)
theorem own_endOf_bd {cs : List Int32} {d : Int32} {f t : Nat} (h : f ≤ t) : f ≤ own_endOf cs d f t ∧ own_endOf cs d f t ≤ t := by
  have b := own_end_bd cs d (t - f) f
  unfold own_endOf
  split <;> omega


def own_hn (p q : Int32) : Int32 := if q < p then 0 else 1
theorem own_hn1 {p q : Int32} (h : ¬ q < p) : own_hn p q = 1 := if_neg h


def own_hit (c i f q d : Int32) : Int32 := if i < f then 0 else if i < q then (if c = d then 1 else 0) else 0
def own_is (u v w : Int32) : Int32 := if (1 : Int32) < u then 1 else if u = (1 : Int32) then (if v < w then 1 else 0) else 0
def own_dl (p : Int32) : Int32 := if (p &&& (256 : Int32)) = (0 : Int32) then (p &&& (255 : Int32)) else (-1 : Int32)
def own_fd (d f q c0 c1 c2 : Int32) : Int32 := if d = (-1 : Int32) then 0 else if own_hit c0 (0 : Int32) f q d = (0 : Int32) then (if own_hit c1 (1 : Int32) f q d = (0 : Int32) then (if own_hit c2 (2 : Int32) f q d = (0 : Int32) then 0 else 1) else 1) else 1
theorem own_and3 (x : Int32) : ∃ n : Nat, n ≤ 3 ∧ (x &&& (3 : Int32)) = Int32.ofNat n := by
  refine ⟨(x &&& 3).toBitVec.toNat, ?_, ?_⟩
  · show ((x.toBitVec &&& 3#32)).toNat ≤ 3
    rw [BitVec.toNat_and]
    exact Nat.and_le_right
  · apply Int32.toBitVec_inj.mp
    show (x &&& 3).toBitVec = _
    rw [Int32.toBitVec_ofNat']
    exact BitVec.eq_of_toNat_eq ((BitVec.toNat_ofNat _ _).trans (Nat.mod_eq_of_lt (BitVec.isLt _))).symm
theorem own_and3c (x : Int32) : (x &&& (3 : Int32)) = (0 : Int32) ∨ (x &&& (3 : Int32)) = (1 : Int32) ∨ (x &&& (3 : Int32)) = (2 : Int32) ∨ (x &&& (3 : Int32)) = (3 : Int32) := by
  obtain ⟨n, h, e⟩ := own_and3 x
  rw [e]
  match n, h with
  | 0, _ => exact Or.inl rfl
  | 1, _ => exact Or.inr (Or.inl rfl)
  | 2, _ => exact Or.inr (Or.inr (Or.inl rfl))
  | 3, _ => exact Or.inr (Or.inr (Or.inr rfl))
theorem own_c255 (x : Int32) : ¬ (x &&& (255 : Int32)) < 0 ∧ ¬ (255 : Int32) < (x &&& (255 : Int32)) := by
  have h : (x &&& (255 : Int32)).toBitVec.toNat ≤ 255 := by
    show ((x.toBitVec &&& 255#32)).toNat ≤ 255
    rw [BitVec.toNat_and]
    exact Nat.and_le_right
  have e : (x &&& (255 : Int32)).toInt = ((x &&& (255 : Int32)).toBitVec.toNat : Int) := by
    show (x &&& (255 : Int32)).toBitVec.toInt = _
    rw [BitVec.toInt_eq_toNat_cond, if_pos (by omega)]
  constructor <;> rw [Int32.lt_iff_toInt_lt, e]
  · show ¬ _ < (0 : Int); omega
  · show ¬ (255 : Int) < _; omega
theorem own_rem (a b : Nat) (ha : a < 2147483648) (hb : b + 1 < 2147483648) : Int32.ofNat a % Int32.ofNat (b + 1) = Int32.ofNat (a % (b + 1)) := by
  apply Int32.toInt_inj.mp
  have h1 : a % (b + 1) ≤ a := Nat.mod_le _ _
  rw [Int32.toInt_mod, own_toI ha, own_toI hb, own_toI (by omega)]
  rw [Int.tmod_eq_emod_of_nonneg (by omega)]
  omega
theorem own_nz (b : Nat) (hb : b + 1 < 2147483648) : Int32.ofNat (b + 1) ≠ 0 := fun h => by
  have q := congrArg Int32.toInt h
  rw [own_toI hb] at q
  have e : (0 : Int32).toInt = 0 := by decide
  rw [e] at q; omega
theorem own_hit0 {c d : Int32} {i f t : Nat} (hi : i < 2147483648) (hf : f < 2147483648) (ht : t < 2147483648) : own_hit c (Int32.ofNat i) (Int32.ofNat f) (Int32.ofNat t) d = 0 ↔ ¬ (f ≤ i ∧ i < t ∧ c = d) := by
  unfold own_hit
  split
  · rename_i h; have := own_ltI h hi hf; simp; omega
  · rename_i h; have h := own_nltI h hi hf
    split
    · rename_i h'; have h' := own_ltI h' hi ht
      split
      · rename_i e; simp [e, h']; omega
      · rename_i e; simp [e]
    · rename_i h'; have h' := own_nltI h' hi ht
      simp; omega
theorem own_fd0 {d c0 c1 c2 : Int32} {f t : Nat} (hft : f ≤ t) (ht : t ≤ 3) : own_fd d (Int32.ofNat f) (Int32.ofNat t) c0 c1 c2 = 0 ↔ own_endOf [c0, c1, c2] d f t = t := by
  have b := own_end_bd [c0, c1, c2] d (t - f) f
  have a := own_end_at [c0, c1, c2] d (t - f) f
  have n := own_end_no [c0, c1, c2] d (t - f) f
  have e0 := own_hit0 (c := c0) (d := d) (i := 0) (f := f) (t := t) (by omega) (by omega) (by omega)
  have e1 := own_hit0 (c := c1) (d := d) (i := 1) (f := f) (t := t) (by omega) (by omega) (by omega)
  have e2 := own_hit0 (c := c2) (d := d) (i := 2) (f := f) (t := t) (by omega) (by omega) (by omega)
  rw [show Int32.ofNat 0 = (0 : Int32) from rfl] at e0
  rw [show Int32.ofNat 1 = (1 : Int32) from rfl] at e1
  rw [show Int32.ofNat 2 = (2 : Int32) from rfl] at e2
  unfold own_fd own_endOf
  by_cases hd : d = (-1 : Int32)
  · simp [hd]
  · rw [if_neg hd, if_neg hd]
    generalize hE : own_end [c0, c1, c2] d f (t - f) = E at *
    have n0 := n 0
    have n1 := n 1
    have n2 := n 2
    simp only [List.getD_cons_zero, List.getD_cons_succ] at n0 n1 n2
    have hEc : E = 0 ∨ E = 1 ∨ E = 2 ∨ E = 3 := by omega
    by_cases h0 : own_hit c0 (0 : Int32) (Int32.ofNat f) (Int32.ofNat t) d = 0
    · rw [if_pos h0]
      have g0 := e0.mp h0
      by_cases h1 : own_hit c1 (1 : Int32) (Int32.ofNat f) (Int32.ofNat t) d = 0
      · rw [if_pos h1]
        have g1 := e1.mp h1
        by_cases h2 : own_hit c2 (2 : Int32) (Int32.ofNat f) (Int32.ofNat t) d = 0
        · rw [if_pos h2]
          have g2 := e2.mp h2
          simp only [true_iff]
          rcases hEc with rfl | rfl | rfl | rfl
          · by_cases q : 0 < f + (t - f)
            · have := a q; simp only [List.getD_cons_zero] at this; exact absurd ⟨by omega, by omega, this⟩ g0
            · omega
          · by_cases q : 1 < f + (t - f)
            · have := a q; simp only [List.getD_cons_zero, List.getD_cons_succ] at this; exact absurd ⟨by omega, by omega, this⟩ g1
            · omega
          · by_cases q : 2 < f + (t - f)
            · have := a q; simp only [List.getD_cons_zero, List.getD_cons_succ] at this; exact absurd ⟨by omega, by omega, this⟩ g2
            · omega
          · omega
        · rw [if_neg h2]
          have g2 : f ≤ 2 ∧ 2 < t ∧ c2 = d := Classical.byContradiction fun q => h2 (e2.mpr q)
          constructor
          · intro q; exact absurd q (by decide)
          · intro q; exact absurd g2.2.2 (n2 (by omega) (by omega))
      · rw [if_neg h1]
        have g1 : f ≤ 1 ∧ 1 < t ∧ c1 = d := Classical.byContradiction fun q => h1 (e1.mpr q)
        constructor
        · intro q; exact absurd q (by decide)
        · intro q; exact absurd g1.2.2 (n1 (by omega) (by omega))
    · rw [if_neg h0]
      have g0 : f ≤ 0 ∧ 0 < t ∧ c0 = d := Classical.byContradiction fun q => h0 (e0.mpr q)
      constructor
      · intro q; exact absurd q (by decide)
      · intro q; exact absurd g0.2.2 (n0 (by omega) (by omega))
theorem own_is0 (v w : Int32) : own_is (0 : Int32) v w = 0 := by unfold own_is; rw [if_neg (by decide), if_neg (by decide)]
theorem own_is1 (v w : Int32) : own_is ((0 : Int32) + (1 : Int32)) v w = if v < w then 1 else 0 := by unfold own_is; rw [if_neg (by decide), if_pos (by decide)]
theorem own_is2 (v w : Int32) : own_is (((0 : Int32) + (1 : Int32)) + (1 : Int32)) v w = 1 := by unfold own_is; rw [if_pos (by decide)]
theorem own_is3 (v w : Int32) : own_is ((((0 : Int32) + (1 : Int32)) + (1 : Int32)) + (1 : Int32)) v w = 1 := by unfold own_is; rw [if_pos (by decide)]

theorem ef_max (m : MethodId) (x0 : Int32) (x1 : Int32) : entryFrame m #[(.int x0), (.int x1)] 2 = mkF m 0 #[.val (.int x0), .val (.int x1)] [] := by first | (simp [entryFrame, mkF, argsToLocals, Value.category]; done) | rfl
def Q_max (Z : State) (p : Int32) (q : Int32) (h0 : Heap) (n0 : Nat) (vV : Option Value) (h : Heap) (LL : List Loc) : Prop := vV = some (.int (own_max p q)) ∧ LL = [] ∧ h = h0
set_option maxRecDepth 65536 in
set_option maxHeartbeats 40000000 in
theorem rm_max (l : Launch) (Z : State) (a0 : Array Value) (hw : ∀ d ∈ tables_1, d.before a0 Z = true) (ws : List Jvm.Cond) (p : Int32) (q : Int32) (h0 : Heap) (n0 : Nat) (O0 : Old Z n0 h0) :
    MetFree l (⟨"java/lang/Math", "max", "(II)I"⟩ : MethodName) (head1 (Jvm.Cond.code (⟨"java/lang/Math", "max", "(II)I"⟩ : MethodName) jdk_29_method_65_code 2 (some .int) :: ws) ({ frames := 0, cells := 0, slots := 0, locals := 0 } : Room)) (fun aa_ U => aa_ = #[(.int p), (.int q)] ∧ Z.Warmed39 U.vm ∧ U.heap = h0) (fun _ _ _ _ _ => True) (fun _ U o U' => ∃ vV LL, o = .returned vV ∧ Q_max Z p q h0 n0 vV U'.heap LL ∧ FrameEnd U o U' LL ({ frames := 0, cells := 0, slots := 0, locals := 0 } : Room).cells ({ frames := 0, cells := 0, slots := 0, locals := 0 } : Room).slots) := by
  refine MetFree.of_bodySF (Jvm.Free.JP.mathPlain rfl (by decide +kernel)) hisR ?_
  intro pP eE sS mM args below meth cC s₁ Bd hml0 hP hK
  obtain ⟨rfl, hZ, hh⟩ := hP
  have hx := Bd.exec
  have hby := Bd.bytes
  have hml : cC.maxLocals = 2 := hml0
  have hown : sS.vm.findClass "java/lang/Math" = some mM.cls := findClass_of_methodNamed Bd.named
  have hnm := (name_of_methodNamed Bd.named Bd.method).1
  have X0 : Stand pP l eE ({ frames := 0, cells := 0, slots := 0, locals := 0 } : Room) sS mM #[(.int p), (.int q)] below meth cC s₁ [] 0 0 := Stand.of_body Bd
  have e0 : s₁.heap = h0 := by rw [← hh, Bd.state]; rfl
  have N0 := Fr.nil n0
  have pre0 : ∀ tg, Steps pP.tables eE below (s₁.setTop (mkF mM 0 #[.val (.int p), .val (.int q)] [])) tg → Steps pP.tables eE below (s₁.setTop (entryFrame mM #[(.int p), (.int q)] 2)) tg := fun tg kg => castTop (ef_max mM p q) kg
  have pre2 : ∀ tg, Steps pP.tables eE below (s₁.setTop (mkF mM 2 #[.val (.int p), .val (.int q)] [(.int q), (.int p)])) tg → Steps pP.tables eE below (s₁.setTop (entryFrame mM #[(.int p), (.int q)] 2)) tg := fun tg kg => pre0 tg (by
    refine XS.iloadN X0.here hx rfl (hb hby d_jdk_29_method_65_0) rfl ?_
    show Steps pP.tables eE below (s₁.setTop (mkF mM 1 #[.val (.int p), .val (.int q)] [(.int p)])) _
    refine XS.iloadN X0.here hx rfl (hb hby d_jdk_29_method_65_1) rfl ?_
    exact kg)
  by_cases hc1 : p < q
  · obtain ⟨fs, hr, hrun, hended, hW, hsame⟩ := X0.leave (v := some (.int q)) (fun h => by rw [Bd.returns] at h; cases h)
    refine ⟨_, _, pre2 _ ?_, hrun, hended, _, _, rfl, ?_, ⟨_, rfl⟩, hW, hsame.mono (by decide) (by decide)⟩
    · refine XS.icmpYes X0.here hx rfl (pc0 := 2) (pc' := 9) rfl (hb hby d_jdk_29_method_65_2) rfl (tlt hc1).1 (by decide) (by decide) ?_
      show Steps pP.tables eE below (s₁.setTop (mkF mM 9 #[.val (.int p), .val (.int q)] [])) _
      refine XS.iloadN X0.here hx rfl (hb hby d_jdk_29_method_65_9) rfl ?_
      show Steps pP.tables eE below (s₁.setTop (mkF mM 10 #[.val (.int p), .val (.int q)] [(.int q)])) _
      exact retI X0 hx Bd.returns (hb hby d_jdk_29_method_65_10) hr
    · show Q_max Z p q h0 n0 _ s₁.heap _
      rw [e0]
      exact ⟨(by rw [own_max, if_pos hc1]), rfl, rfl⟩
  · obtain ⟨fs, hr, hrun, hended, hW, hsame⟩ := X0.leave (v := some (.int p)) (fun h => by rw [Bd.returns] at h; cases h)
    refine ⟨_, _, pre2 _ ?_, hrun, hended, _, _, rfl, ?_, ⟨_, rfl⟩, hW, hsame.mono (by decide) (by decide)⟩
    · refine XS.icmpNo X0.here hx rfl (hb hby d_jdk_29_method_65_2) rfl (flt hc1).1 ?_
      show Steps pP.tables eE below (s₁.setTop (mkF mM 5 #[.val (.int p), .val (.int q)] [])) _
      refine XS.iloadN X0.here hx rfl (hb hby d_jdk_29_method_65_5) rfl ?_
      show Steps pP.tables eE below (s₁.setTop (mkF mM 6 #[.val (.int p), .val (.int q)] [(.int p)])) _
      refine XS.goto X0.here hx rfl (pc0 := 6) (pc' := 10) rfl (hb hby d_jdk_29_method_65_6) (by decide) (by decide) ?_
      show Steps pP.tables eE below (s₁.setTop (mkF mM 10 #[.val (.int p), .val (.int q)] [(.int p)])) _
      exact retI X0 hx Bd.returns (hb hby d_jdk_29_method_65_10) hr
    · show Q_max Z p q h0 n0 _ s₁.heap _
      rw [e0]
      exact ⟨(by rw [own_max, if_neg hc1]), rfl, rfl⟩
theorem ef_min (m : MethodId) (x0 : Int32) (x1 : Int32) : entryFrame m #[(.int x0), (.int x1)] 2 = mkF m 0 #[.val (.int x0), .val (.int x1)] [] := by first | (simp [entryFrame, mkF, argsToLocals, Value.category]; done) | rfl
def Q_min (Z : State) (p : Int32) (q : Int32) (h0 : Heap) (n0 : Nat) (vV : Option Value) (h : Heap) (LL : List Loc) : Prop := vV = some (.int (own_min p q)) ∧ LL = [] ∧ h = h0
set_option maxRecDepth 65536 in
set_option maxHeartbeats 40000000 in
theorem rm_min (l : Launch) (Z : State) (a0 : Array Value) (hw : ∀ d ∈ tables_1, d.before a0 Z = true) (ws : List Jvm.Cond) (p : Int32) (q : Int32) (h0 : Heap) (n0 : Nat) (O0 : Old Z n0 h0) :
    MetFree l (⟨"java/lang/Math", "min", "(II)I"⟩ : MethodName) (head1 (Jvm.Cond.code (⟨"java/lang/Math", "min", "(II)I"⟩ : MethodName) jdk_29_method_69_code 2 (some .int) :: ws) ({ frames := 0, cells := 0, slots := 0, locals := 0 } : Room)) (fun aa_ U => aa_ = #[(.int p), (.int q)] ∧ Z.Warmed39 U.vm ∧ U.heap = h0) (fun _ _ _ _ _ => True) (fun _ U o U' => ∃ vV LL, o = .returned vV ∧ Q_min Z p q h0 n0 vV U'.heap LL ∧ FrameEnd U o U' LL ({ frames := 0, cells := 0, slots := 0, locals := 0 } : Room).cells ({ frames := 0, cells := 0, slots := 0, locals := 0 } : Room).slots) := by
  refine MetFree.of_bodySF (Jvm.Free.JP.mathPlain rfl (by decide +kernel)) hisR ?_
  intro pP eE sS mM args below meth cC s₁ Bd hml0 hP hK
  obtain ⟨rfl, hZ, hh⟩ := hP
  have hx := Bd.exec
  have hby := Bd.bytes
  have hml : cC.maxLocals = 2 := hml0
  have hown : sS.vm.findClass "java/lang/Math" = some mM.cls := findClass_of_methodNamed Bd.named
  have hnm := (name_of_methodNamed Bd.named Bd.method).1
  have X0 : Stand pP l eE ({ frames := 0, cells := 0, slots := 0, locals := 0 } : Room) sS mM #[(.int p), (.int q)] below meth cC s₁ [] 0 0 := Stand.of_body Bd
  have e0 : s₁.heap = h0 := by rw [← hh, Bd.state]; rfl
  have N0 := Fr.nil n0
  have pre0 : ∀ tg, Steps pP.tables eE below (s₁.setTop (mkF mM 0 #[.val (.int p), .val (.int q)] [])) tg → Steps pP.tables eE below (s₁.setTop (entryFrame mM #[(.int p), (.int q)] 2)) tg := fun tg kg => castTop (ef_min mM p q) kg
  have pre2 : ∀ tg, Steps pP.tables eE below (s₁.setTop (mkF mM 2 #[.val (.int p), .val (.int q)] [(.int q), (.int p)])) tg → Steps pP.tables eE below (s₁.setTop (entryFrame mM #[(.int p), (.int q)] 2)) tg := fun tg kg => pre0 tg (by
    refine XS.iloadN X0.here hx rfl (hb hby d_jdk_29_method_69_0) rfl ?_
    show Steps pP.tables eE below (s₁.setTop (mkF mM 1 #[.val (.int p), .val (.int q)] [(.int p)])) _
    refine XS.iloadN X0.here hx rfl (hb hby d_jdk_29_method_69_1) rfl ?_
    exact kg)
  by_cases hc1 : q < p
  · obtain ⟨fs, hr, hrun, hended, hW, hsame⟩ := X0.leave (v := some (.int q)) (fun h => by rw [Bd.returns] at h; cases h)
    refine ⟨_, _, pre2 _ ?_, hrun, hended, _, _, rfl, ?_, ⟨_, rfl⟩, hW, hsame.mono (by decide) (by decide)⟩
    · refine XS.icmpYes X0.here hx rfl (pc0 := 2) (pc' := 9) rfl (hb hby d_jdk_29_method_69_2) rfl (tlt hc1).2.2.1 (by decide) (by decide) ?_
      show Steps pP.tables eE below (s₁.setTop (mkF mM 9 #[.val (.int p), .val (.int q)] [])) _
      refine XS.iloadN X0.here hx rfl (hb hby d_jdk_29_method_69_9) rfl ?_
      show Steps pP.tables eE below (s₁.setTop (mkF mM 10 #[.val (.int p), .val (.int q)] [(.int q)])) _
      exact retI X0 hx Bd.returns (hb hby d_jdk_29_method_69_10) hr
    · show Q_min Z p q h0 n0 _ s₁.heap _
      rw [e0]
      exact ⟨(by rw [own_min, if_pos hc1]), rfl, rfl⟩
  · obtain ⟨fs, hr, hrun, hended, hW, hsame⟩ := X0.leave (v := some (.int p)) (fun h => by rw [Bd.returns] at h; cases h)
    refine ⟨_, _, pre2 _ ?_, hrun, hended, _, _, rfl, ?_, ⟨_, rfl⟩, hW, hsame.mono (by decide) (by decide)⟩
    · refine XS.icmpNo X0.here hx rfl (hb hby d_jdk_29_method_69_2) rfl (flt hc1).2.2.1 ?_
      show Steps pP.tables eE below (s₁.setTop (mkF mM 5 #[.val (.int p), .val (.int q)] [])) _
      refine XS.iloadN X0.here hx rfl (hb hby d_jdk_29_method_69_5) rfl ?_
      show Steps pP.tables eE below (s₁.setTop (mkF mM 6 #[.val (.int p), .val (.int q)] [(.int p)])) _
      refine XS.goto X0.here hx rfl (pc0 := 6) (pc' := 10) rfl (hb hby d_jdk_29_method_69_6) (by decide) (by decide) ?_
      show Steps pP.tables eE below (s₁.setTop (mkF mM 10 #[.val (.int p), .val (.int q)] [(.int p)])) _
      exact retI X0 hx Bd.returns (hb hby d_jdk_29_method_69_10) hr
    · show Q_min Z p q h0 n0 _ s₁.heap _
      rw [e0]
      exact ⟨(by rw [own_min, if_neg hc1]), rfl, rfl⟩
theorem ef_enc (m : MethodId) (x0 : Int32) : entryFrame m #[(.int x0)] 1 = mkF m 0 #[.val (.int x0)] [] := by first | (simp [entryFrame, mkF, argsToLocals, Value.category]; done) | rfl
def Q_enc (Z : State) (p : Int32) (h0 : Heap) (n0 : Nat) (vV : Option Value) (h : Heap) (LL : List Loc) : Prop := vV = some (.int (own_enc p)) ∧ LL = [] ∧ h = h0
set_option maxRecDepth 65536 in
set_option maxHeartbeats 40000000 in
theorem rm_enc (l : Launch) (Z : State) (a0 : Array Value) (hw : ∀ d ∈ tables_1, d.before a0 Z = true) (ws : List Jvm.Cond) (p : Int32) (h0 : Heap) (n0 : Nat) (O0 : Old Z n0 h0) :
    MetFree l (⟨"java/lang/StringLatin1", "canEncode", "(I)Z"⟩ : MethodName) (head1 (Jvm.Cond.code (⟨"java/lang/StringLatin1", "canEncode", "(I)Z"⟩ : MethodName) jdk_43_method_4_code 1 (some .boolean) :: ws) ({ frames := 0, cells := 0, slots := 0, locals := 0 } : Room)) (fun aa_ U => aa_ = #[(.int p)] ∧ Z.Warmed39 U.vm ∧ U.heap = h0) (fun _ _ _ _ _ => True) (fun _ U o U' => ∃ vV LL, o = .returned vV ∧ Q_enc Z p h0 n0 vV U'.heap LL ∧ FrameEnd U o U' LL ({ frames := 0, cells := 0, slots := 0, locals := 0 } : Room).cells ({ frames := 0, cells := 0, slots := 0, locals := 0 } : Room).slots) := by
  refine MetFree.of_bodySF (plainFor_of_name pn_0) hisR ?_
  intro pP eE sS mM args below meth cC s₁ Bd hml0 hP hK
  obtain ⟨rfl, hZ, hh⟩ := hP
  have hx := Bd.exec
  have hby := Bd.bytes
  have hml : cC.maxLocals = 1 := hml0
  have hown : sS.vm.findClass "java/lang/StringLatin1" = some mM.cls := findClass_of_methodNamed Bd.named
  have hnm := (name_of_methodNamed Bd.named Bd.method).1
  have X0 : Stand pP l eE ({ frames := 0, cells := 0, slots := 0, locals := 0 } : Room) sS mM #[(.int p)] below meth cC s₁ [] 0 0 := Stand.of_body Bd
  have e0 : s₁.heap = h0 := by rw [← hh, Bd.state]; rfl
  have N0 := Fr.nil n0
  have pre0 : ∀ tg, Steps pP.tables eE below (s₁.setTop (mkF mM 0 #[.val (.int p)] [])) tg → Steps pP.tables eE below (s₁.setTop (entryFrame mM #[(.int p)] 1)) tg := fun tg kg => castTop (ef_enc mM p) kg
  have pre2 : ∀ tg, Steps pP.tables eE below (s₁.setTop (mkF mM 1 #[.val (.int p)] [(.int p)])) tg → Steps pP.tables eE below (s₁.setTop (entryFrame mM #[(.int p)] 1)) tg := fun tg kg => pre0 tg (by
    refine XS.iloadN X0.here hx rfl (hb hby d_jdk_43_method_4_0) rfl ?_
    exact kg)
  by_cases hc1 : p < (0 : Int32)
  · obtain ⟨fs, hr, hrun, hended, hW, hsame⟩ := X0.leave (v := some (.int (0 : Int32))) (fun h => by rw [Bd.returns] at h; cases h)
    refine ⟨_, _, pre2 _ ?_, hrun, hended, _, _, rfl, ?_, ⟨_, rfl⟩, hW, hsame.mono (by decide) (by decide)⟩
    · refine XS.ifYes X0.here hx rfl (pc0 := 1) (pc' := 15) rfl (hb hby d_jdk_43_method_4_1) rfl ((if0 _ _).trans (tlt hc1).1) (by decide) (by decide) ?_
      show Steps pP.tables eE below (s₁.setTop (mkF mM 15 #[.val (.int p)] [])) _
      refine XS.iconst X0.here hx rfl (hb hby d_jdk_43_method_4_15) ?_
      show Steps pP.tables eE below (s₁.setTop (mkF mM 16 #[.val (.int p)] [(.int (0 : Int32))])) _
      exact retN X0 hx (t := .boolean) Bd.returns (by simp) (hb hby d_jdk_43_method_4_16) hr
    · show Q_enc Z p h0 n0 _ s₁.heap _
      rw [e0]
      exact ⟨(by rw [own_enc, if_pos hc1]), rfl, rfl⟩
  · have pre5 : ∀ tg, Steps pP.tables eE below (s₁.setTop (mkF mM 8 #[.val (.int p)] [(.int (255 : Int32)), (.int p)])) tg → Steps pP.tables eE below (s₁.setTop (entryFrame mM #[(.int p)] 1)) tg := fun tg kg => pre2 tg (by
      refine XS.ifNo X0.here hx rfl (hb hby d_jdk_43_method_4_1) rfl ((if0 _ _).trans (flt hc1).1) ?_
      show Steps pP.tables eE below (s₁.setTop (mkF mM 4 #[.val (.int p)] [])) _
      refine XS.iloadN X0.here hx rfl (hb hby d_jdk_43_method_4_4) rfl ?_
      show Steps pP.tables eE below (s₁.setTop (mkF mM 5 #[.val (.int p)] [(.int p)])) _
      refine XS.sipush X0.here hx rfl (hb hby d_jdk_43_method_4_5) ?_
      exact kg)
    by_cases hc4 : (255 : Int32) < p
    · obtain ⟨fs, hr, hrun, hended, hW, hsame⟩ := X0.leave (v := some (.int (0 : Int32))) (fun h => by rw [Bd.returns] at h; cases h)
      refine ⟨_, _, pre5 _ ?_, hrun, hended, _, _, rfl, ?_, ⟨_, rfl⟩, hW, hsame.mono (by decide) (by decide)⟩
      · refine XS.icmpYes X0.here hx rfl (pc0 := 8) (pc' := 15) rfl (hb hby d_jdk_43_method_4_8) rfl (tlt hc4).2.2.1 (by decide) (by decide) ?_
        show Steps pP.tables eE below (s₁.setTop (mkF mM 15 #[.val (.int p)] [])) _
        refine XS.iconst X0.here hx rfl (hb hby d_jdk_43_method_4_15) ?_
        show Steps pP.tables eE below (s₁.setTop (mkF mM 16 #[.val (.int p)] [(.int (0 : Int32))])) _
        exact retN X0 hx (t := .boolean) Bd.returns (by simp) (hb hby d_jdk_43_method_4_16) hr
      · show Q_enc Z p h0 n0 _ s₁.heap _
        rw [e0]
        exact ⟨(by rw [own_enc, if_neg hc1, if_pos hc4]), rfl, rfl⟩
    · obtain ⟨fs, hr, hrun, hended, hW, hsame⟩ := X0.leave (v := some (.int (1 : Int32))) (fun h => by rw [Bd.returns] at h; cases h)
      refine ⟨_, _, pre5 _ ?_, hrun, hended, _, _, rfl, ?_, ⟨_, rfl⟩, hW, hsame.mono (by decide) (by decide)⟩
      · refine XS.icmpNo X0.here hx rfl (hb hby d_jdk_43_method_4_8) rfl (flt hc4).2.2.1 ?_
        show Steps pP.tables eE below (s₁.setTop (mkF mM 11 #[.val (.int p)] [])) _
        refine XS.iconst X0.here hx rfl (hb hby d_jdk_43_method_4_11) ?_
        show Steps pP.tables eE below (s₁.setTop (mkF mM 12 #[.val (.int p)] [(.int (1 : Int32))])) _
        refine XS.goto X0.here hx rfl (pc0 := 12) (pc' := 16) rfl (hb hby d_jdk_43_method_4_12) (by decide) (by decide) ?_
        show Steps pP.tables eE below (s₁.setTop (mkF mM 16 #[.val (.int p)] [(.int (1 : Int32))])) _
        exact retN X0 hx (t := .boolean) Bd.returns (by simp) (hb hby d_jdk_43_method_4_16) hr
      · show Q_enc Z p h0 n0 _ s₁.heap _
        rw [e0]
        exact ⟨(by rw [own_enc, if_neg hc1, if_neg hc4]), rfl, rfl⟩
theorem ef_lat (m : MethodId) (x0 : Addr) : entryFrame m #[(.ref x0)] 1 = mkF m 0 #[.val (.ref x0)] [] := by first | (simp [entryFrame, mkF, argsToLocals, Value.category]; done) | rfl
def Q_lat (Z : State) (x : Addr) (zc : Int32) (h0 : Heap) (n0 : Nat) (vV : Option Value) (h : Heap) (LL : List Loc) : Prop := vV = some (.int (1 : Int32)) ∧ LL = [] ∧ h = h0
set_option maxRecDepth 65536 in
set_option maxHeartbeats 40000000 in
theorem rm_lat (l : Launch) (Z : State) (a0 : Array Value) (hw : ∀ d ∈ tables_1, d.before a0 Z = true) (ws : List Jvm.Cond) (x : Addr) (zc : Int32) (h0 : Heap) (n0 : Nat) (O0 : Old Z n0 h0) (F_x_coder : Fld Z h0 x "java/lang/String" "coder" "B" (.int (0 : Int32))) (S_COMPACT_STRINGS : Sta Z Z.heap "java/lang/String" "COMPACT_STRINGS" "Z" (.int zc)) (hp2 : ¬ (zc = (0 : Int32))) :
    MetFree l (⟨"java/lang/String", "isLatin1", "()Z"⟩ : MethodName) (head1 (Jvm.Cond.code (⟨"java/lang/String", "isLatin1", "()Z"⟩ : MethodName) jdk_42_method_154_code 1 (some .boolean) :: ws) ({ frames := 0, cells := 0, slots := 0, locals := 0 } : Room)) (fun aa_ U => aa_ = #[(.ref x)] ∧ Z.Warmed39 U.vm ∧ U.heap = h0) (fun _ _ _ _ _ => True) (fun _ U o U' => ∃ vV LL, o = .returned vV ∧ Q_lat Z x zc h0 n0 vV U'.heap LL ∧ FrameEnd U o U' LL ({ frames := 0, cells := 0, slots := 0, locals := 0 } : Room).cells ({ frames := 0, cells := 0, slots := 0, locals := 0 } : Room).slots) := by
  refine MetFree.of_bodySF (plainFor_of_name pn_1) hisR ?_
  intro pP eE sS mM args below meth cC s₁ Bd hml0 hP hK
  obtain ⟨rfl, hZ, hh⟩ := hP
  have hx := Bd.exec
  have hby := Bd.bytes
  have hml : cC.maxLocals = 1 := hml0
  have hown : sS.vm.findClass "java/lang/String" = some mM.cls := findClass_of_methodNamed Bd.named
  have hnm := (name_of_methodNamed Bd.named Bd.method).1
  have X0 : Stand pP l eE ({ frames := 0, cells := 0, slots := 0, locals := 0 } : Room) sS mM #[(.ref x)] below meth cC s₁ [] 0 0 := Stand.of_body Bd
  have e0 : s₁.heap = h0 := by rw [← hh, Bd.state]; rfl
  have N0 := Fr.nil n0
  have pre0 : ∀ tg, Steps pP.tables eE below (s₁.setTop (mkF mM 0 #[.val (.ref x)] [])) tg → Steps pP.tables eE below (s₁.setTop (entryFrame mM #[(.ref x)] 1)) tg := fun tg kg => castTop (ef_lat mM x) kg
  obtain ⟨T1, X1, e1, st1⟩ := getS2 X0 hx hZ hown (host := "") (Or.inl (w_14 hw)) Via.refl e0 (Sta.ext (O0).2 S_COMPACT_STRINGS) (g := (mkF mM 0 #[.val (.ref x)] [])) rfl (hb hby d_jdk_42_method_154_0)
  obtain ⟨T2, X2, e2, st2⟩ := getF X1 hx hZ hown (host := "") (Or.inl (w_26 hw)) Via.refl e1 F_x_coder (g := (mkF mM 7 #[.val (.ref x)] [(.ref x)])) rfl rfl (hb hby d_jdk_42_method_154_7)
  obtain ⟨fs, hr, hrun, hended, hW, hsame⟩ := X2.leave (v := some (.int (1 : Int32))) (fun h => by rw [Bd.returns] at h; cases h)
  refine ⟨_, _, pre0 _ ?_, hrun, hended, _, _, rfl, ?_, ⟨_, rfl⟩, hW, hsame.mono (by decide) (by decide)⟩
  · refine st1 _ ?_
    show Steps pP.tables eE below (T1.setTop (mkF mM 3 #[.val (.ref x)] [(.int zc)])) _
    refine XS.ifNo X1.here hx rfl (hb hby d_jdk_42_method_154_3) rfl ((if0 _ _).trans (feq hp2).1) ?_
    show Steps pP.tables eE below (T1.setTop (mkF mM 6 #[.val (.ref x)] [])) _
    refine XS.aloadN X1.here hx rfl (hb hby d_jdk_42_method_154_6) rfl rfl ?_
    show Steps pP.tables eE below (T1.setTop (mkF mM 7 #[.val (.ref x)] [(.ref x)])) _
    refine st2 _ ?_
    show Steps pP.tables eE below (T2.setTop (mkF mM 10 #[.val (.ref x)] [(.int (0 : Int32))])) _
    refine XS.ifNo X2.here hx rfl (hb hby d_jdk_42_method_154_10) rfl ((if0 _ _).trans (teq (by decide : (0 : Int32) = (0 : Int32))).2) ?_
    show Steps pP.tables eE below (T2.setTop (mkF mM 13 #[.val (.ref x)] [])) _
    refine XS.iconst X2.here hx rfl (hb hby d_jdk_42_method_154_13) ?_
    show Steps pP.tables eE below (T2.setTop (mkF mM 14 #[.val (.ref x)] [(.int (1 : Int32))])) _
    refine XS.goto X2.here hx rfl (pc0 := 14) (pc' := 18) rfl (hb hby d_jdk_42_method_154_14) (by decide) (by decide) ?_
    show Steps pP.tables eE below (T2.setTop (mkF mM 18 #[.val (.ref x)] [(.int (1 : Int32))])) _
    exact retN X2 hx (t := .boolean) Bd.returns (by simp) (hb hby d_jdk_42_method_154_18) hr
  · show Q_lat Z x zc h0 n0 _ T2.heap _
    rw [e2]
    exact ⟨rfl, rfl, rfl⟩
set_option maxRecDepth 65536 in
set_option maxHeartbeats 40000000 in
theorem lp_ioc {pP : Program} {l : Launch} {eE : Env} {sS : State} {mM : MethodId} {args : Array Value} {below : List Frame} {meth : Method} {cC : Code} {locs : List Loc} {Z : State} {a0 : Array Value} (t : Addr) (kk : ClassId) (cs : List Int32) (d : Int32) (f : Nat) {h0 : Heap} {n0 : Nat} (hx : pP.tables.exec = Jvm.exec) (hZ : Z.Warmed39 sS.vm) (hw : ∀ d ∈ tables_1, d.before a0 Z = true) (hby : cC.code = jdk_43_method_23_code) (hml : cC.maxLocals = 6) (hown : sS.vm.findClass "java/lang/StringLatin1" = some mM.cls) (O0 : Old Z n0 h0) (V_t : Arv Z h0 t kk .byte (Int32.ofNat (cs).length) (own_b8 cs) (.int 0)) (hp1 : cs.length ≤ 4000) (hp2 : ∀ c ∈ cs, ¬ c < 0 ∧ ¬ (255 : Int32) < c) (hp3 : ¬ d < 0 ∧ ¬ (255 : Int32) < d) :
    ∀ (k : Nat) (i : Nat) {T0 : State} (X0 : Stand pP l eE ({ frames := 0, cells := 0, slots := 0, locals := 0 } : Room) sS mM args below meth cC T0 locs 0 0) (e0 : T0.heap = h0) (hik : i + k = cs.length), own_ToP pP l eE ({ frames := 0, cells := 0, slots := 0, locals := 0 } : Room) sS mM args below meth cC locs 0 0 h0 T0 (mkF mM 7 #[.val (.ref t), .val (.int d), .val (.int (Int32.ofNat f)), .val (.int (Int32.ofNat (cs).length)), .val (.int (d.toInt8.toInt32)), .val (.int (Int32.ofNat i))] []) (fun g' => (∃ Ls, g' = mkF mM 24 Ls [(.int (own_ixk cs d i k))]) ∨ (∃ Ls, g' = mkF mM 32 Ls [(.int (own_ixk cs d i k))])) := by
  intro k
  induction k with
  | zero =>
    intro i T0 X0 e0 hik
    refine ⟨T0, mkF mM 32 #[.val (.ref t), .val (.int d), .val (.int (Int32.ofNat f)), .val (.int (Int32.ofNat (cs).length)), .val (.int (d.toInt8.toInt32)), .val (.int (Int32.ofNat i))] [(.int (own_ixk cs d i 0))], Or.inr (⟨_, rfl⟩), X0, e0, fun tg kg => ?_⟩
    rw [show own_ixk cs d i 0 = (-1 : Int32) from rfl] at kg
    refine XS.iload X0.here hx rfl (hb hby d_jdk_43_method_23_7) rfl ?_
    show Steps pP.tables eE below (T0.setTop (mkF mM 9 #[.val (.ref t), .val (.int d), .val (.int (Int32.ofNat f)), .val (.int (Int32.ofNat (cs).length)), .val (.int (d.toInt8.toInt32)), .val (.int (Int32.ofNat i))] [(.int (Int32.ofNat i))])) _
    refine XS.iloadN X0.here hx rfl (hb hby d_jdk_43_method_23_9) rfl ?_
    show Steps pP.tables eE below (T0.setTop (mkF mM 10 #[.val (.ref t), .val (.int d), .val (.int (Int32.ofNat f)), .val (.int (Int32.ofNat (cs).length)), .val (.int (d.toInt8.toInt32)), .val (.int (Int32.ofNat i))] [(.int (Int32.ofNat (cs).length)), (.int (Int32.ofNat i))])) _
    refine XS.icmpYes X0.here hx rfl (pc0 := 10) (pc' := 31) rfl (hb hby d_jdk_43_method_23_10) rfl (flt (own_nlt (by omega) (by omega))).2.1 (by decide) (by decide) ?_
    show Steps pP.tables eE below (T0.setTop (mkF mM 31 #[.val (.ref t), .val (.int d), .val (.int (Int32.ofNat f)), .val (.int (Int32.ofNat (cs).length)), .val (.int (d.toInt8.toInt32)), .val (.int (Int32.ofNat i))] [])) _
    refine XS.iconst X0.here hx rfl (hb hby d_jdk_43_method_23_31) ?_
    exact kg
  | succ k ih =>
    intro i T0 X0 e0 hik
    obtain ⟨cl1, Ar1, -, S1, Nn1, Hh1, -⟩ := id V_t
    have hin1 : ¬ ((Int32.ofNat i) < 0 ∨ cl1.slots.size ≤ ((Int32.ofNat i)).toNatClampNeg) := inb_of S1 ⟨own_nneg _ (by omega), own_lt (by omega) (by omega)⟩
    have hat1 : cl1.slots[((Int32.ofNat i)).toNatClampNeg]? = some (.int ((cs.getD i 0).toInt8.toInt32)) := Hh1.at hin1 (own_b8_get cs (by omega) hp1)
    have pre3 : ∀ tg, Steps pP.tables eE below (T0.setTop (mkF mM 19 #[.val (.ref t), .val (.int d), .val (.int (Int32.ofNat f)), .val (.int (Int32.ofNat (cs).length)), .val (.int (d.toInt8.toInt32)), .val (.int (Int32.ofNat i))] [(.int (d.toInt8.toInt32)), (.int ((cs.getD i 0).toInt8.toInt32))])) tg → Steps pP.tables eE below (T0.setTop (mkF mM 7 #[.val (.ref t), .val (.int d), .val (.int (Int32.ofNat f)), .val (.int (Int32.ofNat (cs).length)), .val (.int (d.toInt8.toInt32)), .val (.int (Int32.ofNat i))] [])) tg := fun tg kg => (by
      refine XS.iload X0.here hx rfl (hb hby d_jdk_43_method_23_7) rfl ?_
      show Steps pP.tables eE below (T0.setTop (mkF mM 9 #[.val (.ref t), .val (.int d), .val (.int (Int32.ofNat f)), .val (.int (Int32.ofNat (cs).length)), .val (.int (d.toInt8.toInt32)), .val (.int (Int32.ofNat i))] [(.int (Int32.ofNat i))])) _
      refine XS.iloadN X0.here hx rfl (hb hby d_jdk_43_method_23_9) rfl ?_
      show Steps pP.tables eE below (T0.setTop (mkF mM 10 #[.val (.ref t), .val (.int d), .val (.int (Int32.ofNat f)), .val (.int (Int32.ofNat (cs).length)), .val (.int (d.toInt8.toInt32)), .val (.int (Int32.ofNat i))] [(.int (Int32.ofNat (cs).length)), (.int (Int32.ofNat i))])) _
      refine XS.icmpNo X0.here hx rfl (hb hby d_jdk_43_method_23_10) rfl (tlt (own_lt (by omega) (by omega))).2.1 ?_
      show Steps pP.tables eE below (T0.setTop (mkF mM 13 #[.val (.ref t), .val (.int d), .val (.int (Int32.ofNat f)), .val (.int (Int32.ofNat (cs).length)), .val (.int (d.toInt8.toInt32)), .val (.int (Int32.ofNat i))] [])) _
      refine XS.aloadN X0.here hx rfl (hb hby d_jdk_43_method_23_13) rfl rfl ?_
      show Steps pP.tables eE below (T0.setTop (mkF mM 14 #[.val (.ref t), .val (.int d), .val (.int (Int32.ofNat f)), .val (.int (Int32.ofNat (cs).length)), .val (.int (d.toInt8.toInt32)), .val (.int (Int32.ofNat i))] [(.ref t)])) _
      refine XS.iload X0.here hx rfl (hb hby d_jdk_43_method_23_14) rfl ?_
      show Steps pP.tables eE below (T0.setTop (mkF mM 16 #[.val (.ref t), .val (.int d), .val (.int (Int32.ofNat f)), .val (.int (Int32.ofNat (cs).length)), .val (.int (d.toInt8.toInt32)), .val (.int (Int32.ofNat i))] [(.int (Int32.ofNat i)), (.ref t)])) _
      refine X0.baloadBytes hx (j := (Int32.ofNat i)) (v := (.int ((cs.getD i 0).toInt8.toInt32))) (by rw [e0]; exact Ar1.1) (State.isArrayOf_alike hZ.alike Ar1.2.1) Ar1.2.2 hin1 hat1 (g := (mkF mM 16 #[.val (.ref t), .val (.int d), .val (.int (Int32.ofNat f)), .val (.int (Int32.ofNat (cs).length)), .val (.int (d.toInt8.toInt32)), .val (.int (Int32.ofNat i))] [(.int (Int32.ofNat i)), (.ref t)])) rfl rfl (hb hby d_jdk_43_method_23_16) _ ?_
      show Steps pP.tables eE below (T0.setTop (mkF mM 17 #[.val (.ref t), .val (.int d), .val (.int (Int32.ofNat f)), .val (.int (Int32.ofNat (cs).length)), .val (.int (d.toInt8.toInt32)), .val (.int (Int32.ofNat i))] [(.int ((cs.getD i 0).toInt8.toInt32))])) _
      refine XS.iload X0.here hx rfl (hb hby d_jdk_43_method_23_17) rfl ?_
      exact kg)
    by_cases hc2 : ((cs.getD i 0).toInt8.toInt32) = (d.toInt8.toInt32)
    · refine ⟨T0, mkF mM 24 #[.val (.ref t), .val (.int d), .val (.int (Int32.ofNat f)), .val (.int (Int32.ofNat (cs).length)), .val (.int (d.toInt8.toInt32)), .val (.int (Int32.ofNat i))] [(.int (own_ixk cs d i (k + 1)))], Or.inl ⟨_, rfl⟩, X0, e0, fun tg kg => ?_⟩
      rw [show own_ixk cs d i (k + 1) = Int32.ofNat i from if_pos (own_lo8_inj (hp2 _ (own_mem cs (i := i) (by omega))) hp3 hc2)] at kg
      refine pre3 tg ?_
      refine XS.icmpNo X0.here hx rfl (hb hby d_jdk_43_method_23_19) rfl (teq hc2).2 ?_
      show Steps pP.tables eE below (T0.setTop (mkF mM 22 #[.val (.ref t), .val (.int d), .val (.int (Int32.ofNat f)), .val (.int (Int32.ofNat (cs).length)), .val (.int (d.toInt8.toInt32)), .val (.int (Int32.ofNat i))] [])) _
      refine XS.iload X0.here hx rfl (hb hby d_jdk_43_method_23_22) rfl ?_
      exact kg
    · obtain ⟨T4, g4, hg4, X4, e4, st4⟩ := ih (i + 1) X0 e0 (by omega)
      refine ⟨T4, g4, (by rw [show own_ixk cs d i (k + 1) = own_ixk cs d (i + 1) k from if_neg (fun q => hc2 (by rw [q]))]; exact hg4), X4, e4, fun tg kg => ?_⟩
      refine pre3 tg ?_
      refine XS.icmpYes X0.here hx rfl (pc0 := 19) (pc' := 25) rfl (hb hby d_jdk_43_method_23_19) rfl (feq hc2).2 (by decide) (by decide) ?_
      show Steps pP.tables eE below (T0.setTop (mkF mM 25 #[.val (.ref t), .val (.int d), .val (.int (Int32.ofNat f)), .val (.int (Int32.ofNat (cs).length)), .val (.int (d.toInt8.toInt32)), .val (.int (Int32.ofNat i))] [])) _
      refine XS.iinc X0.here hx rfl (hb hby d_jdk_43_method_23_25) rfl (l' := #[.val (.ref t), .val (.int d), .val (.int (Int32.ofNat f)), .val (.int (Int32.ofNat (cs).length)), .val (.int (d.toInt8.toInt32)), .val (.int ((Int32.ofNat i) + (1 : Int32)))]) rfl ?_
      show Steps pP.tables eE below (T0.setTop (mkF mM 28 #[.val (.ref t), .val (.int d), .val (.int (Int32.ofNat f)), .val (.int (Int32.ofNat (cs).length)), .val (.int (d.toInt8.toInt32)), .val (.int ((Int32.ofNat i) + (1 : Int32)))] [])) _
      refine XS.goto X0.here hx rfl (pc0 := 28) (pc' := 7) rfl (hb hby d_jdk_43_method_23_28) (by decide) (by decide) ?_
      show Steps pP.tables eE below (T0.setTop (mkF mM 7 #[.val (.ref t), .val (.int d), .val (.int (Int32.ofNat f)), .val (.int (Int32.ofNat (cs).length)), .val (.int (d.toInt8.toInt32)), .val (.int ((Int32.ofNat i) + (1 : Int32)))] [])) _
      rw [own_inc i]
      exact st4 tg kg
theorem ef_ioc (m : MethodId) (x0 : Addr) (x1 : Int32) (x2 : Int32) (x3 : Int32) : entryFrame m #[(.ref x0), (.int x1), (.int x2), (.int x3)] 6 = mkF m 0 #[.val (.ref x0), .val (.int x1), .val (.int x2), .val (.int x3), .unset, .unset] [] := by first | (simp [entryFrame, mkF, argsToLocals, Value.category]; done) | rfl
def Q_ioc (Z : State) (t : Addr) (kk : ClassId) (cs : List Int32) (d : Int32) (f : Nat) (h0 : Heap) (n0 : Nat) (vV : Option Value) (h : Heap) (LL : List Loc) : Prop := vV = some (.int (own_ixk cs d f (cs.length - f))) ∧ LL = [] ∧ h = h0
set_option maxRecDepth 65536 in
set_option maxHeartbeats 40000000 in
theorem rm_ioc (l : Launch) (Z : State) (a0 : Array Value) (hw : ∀ d ∈ tables_1, d.before a0 Z = true) (ws : List Jvm.Cond) (t : Addr) (kk : ClassId) (cs : List Int32) (d : Int32) (f : Nat) (h0 : Heap) (n0 : Nat) (O0 : Old Z n0 h0) (V_t : Arv Z h0 t kk .byte (Int32.ofNat (cs).length) (own_b8 cs) (.int 0)) (hp1 : cs.length ≤ 4000) (hp2 : ∀ c ∈ cs, ¬ c < 0 ∧ ¬ (255 : Int32) < c) (hp3 : ¬ d < 0 ∧ ¬ (255 : Int32) < d) (hp4 : f ≤ cs.length) :
    MetFree l (⟨"java/lang/StringLatin1", "indexOfChar", "([BIII)I"⟩ : MethodName) (head1 (Jvm.Cond.code (⟨"java/lang/StringLatin1", "indexOfChar", "([BIII)I"⟩ : MethodName) jdk_43_method_23_code 6 (some .int) :: ws) ({ frames := 0, cells := 0, slots := 0, locals := 0 } : Room)) (fun aa_ U => aa_ = #[(.ref t), (.int d), (.int (Int32.ofNat f)), (.int (Int32.ofNat (cs).length))] ∧ Z.Warmed39 U.vm ∧ U.heap = h0) (fun _ _ _ _ _ => True) (fun _ U o U' => ∃ vV LL, o = .returned vV ∧ Q_ioc Z t kk cs d f h0 n0 vV U'.heap LL ∧ FrameEnd U o U' LL ({ frames := 0, cells := 0, slots := 0, locals := 0 } : Room).cells ({ frames := 0, cells := 0, slots := 0, locals := 0 } : Room).slots) := by
  refine MetFree.of_bodySF (plainFor_of_name pn_0) hisR ?_
  intro pP eE sS mM args below meth cC s₁ Bd hml0 hP hK
  obtain ⟨rfl, hZ, hh⟩ := hP
  have hx := Bd.exec
  have hby := Bd.bytes
  have hml : cC.maxLocals = 6 := hml0
  have hown : sS.vm.findClass "java/lang/StringLatin1" = some mM.cls := findClass_of_methodNamed Bd.named
  have hnm := (name_of_methodNamed Bd.named Bd.method).1
  have X0 : Stand pP l eE ({ frames := 0, cells := 0, slots := 0, locals := 0 } : Room) sS mM #[(.ref t), (.int d), (.int (Int32.ofNat f)), (.int (Int32.ofNat (cs).length))] below meth cC s₁ [] 0 0 := Stand.of_body Bd
  have e0 : s₁.heap = h0 := by rw [← hh, Bd.state]; rfl
  have N0 := Fr.nil n0
  have pre0 : ∀ tg, Steps pP.tables eE below (s₁.setTop (mkF mM 0 #[.val (.ref t), .val (.int d), .val (.int (Int32.ofNat f)), .val (.int (Int32.ofNat (cs).length)), .unset, .unset] [])) tg → Steps pP.tables eE below (s₁.setTop (entryFrame mM #[(.ref t), (.int d), (.int (Int32.ofNat f)), (.int (Int32.ofNat (cs).length))] 6)) tg := fun tg kg => castTop (ef_ioc mM t d (Int32.ofNat f) (Int32.ofNat (cs).length)) kg
  obtain ⟨T1, g1, hg1, X1, e1, st1⟩ := lp_ioc t kk cs d f hx hZ hw hby hml hown O0 V_t hp1 hp2 hp3 (cs.length - f) (f) X0 e0 (by omega)
  rcases hg1 with ⟨Lx1, rfl⟩ | ⟨Lx1, rfl⟩
  · obtain ⟨fs, hr, hrun, hended, hW, hsame⟩ := X1.leave (v := some (.int (own_ixk cs d f (cs.length - f)))) (fun h => by rw [Bd.returns] at h; cases h)
    refine ⟨_, _, pre0 _ ?_, hrun, hended, _, _, rfl, ?_, ⟨_, rfl⟩, hW, hsame.mono (by decide) (by decide)⟩
    · refine XS.iloadN X0.here hx rfl (hb hby d_jdk_43_method_23_0) rfl ?_
      show Steps pP.tables eE below (s₁.setTop (mkF mM 1 #[.val (.ref t), .val (.int d), .val (.int (Int32.ofNat f)), .val (.int (Int32.ofNat (cs).length)), .unset, .unset] [(.int d)])) _
      refine XS.i2b X0.here hx rfl (hb hby d_jdk_43_method_23_1) rfl ?_
      show Steps pP.tables eE below (s₁.setTop (mkF mM 2 #[.val (.ref t), .val (.int d), .val (.int (Int32.ofNat f)), .val (.int (Int32.ofNat (cs).length)), .unset, .unset] [(.int (d.toInt8.toInt32))])) _
      refine XS.istore X0.here hx rfl (hb hby d_jdk_43_method_23_2) rfl (l' := #[.val (.ref t), .val (.int d), .val (.int (Int32.ofNat f)), .val (.int (Int32.ofNat (cs).length)), .val (.int (d.toInt8.toInt32)), .unset]) rfl ?_
      show Steps pP.tables eE below (s₁.setTop (mkF mM 4 #[.val (.ref t), .val (.int d), .val (.int (Int32.ofNat f)), .val (.int (Int32.ofNat (cs).length)), .val (.int (d.toInt8.toInt32)), .unset] [])) _
      refine XS.iloadN X0.here hx rfl (hb hby d_jdk_43_method_23_4) rfl ?_
      show Steps pP.tables eE below (s₁.setTop (mkF mM 5 #[.val (.ref t), .val (.int d), .val (.int (Int32.ofNat f)), .val (.int (Int32.ofNat (cs).length)), .val (.int (d.toInt8.toInt32)), .unset] [(.int (Int32.ofNat f))])) _
      refine XS.istore X0.here hx rfl (hb hby d_jdk_43_method_23_5) rfl (l' := #[.val (.ref t), .val (.int d), .val (.int (Int32.ofNat f)), .val (.int (Int32.ofNat (cs).length)), .val (.int (d.toInt8.toInt32)), .val (.int (Int32.ofNat f))]) rfl ?_
      show Steps pP.tables eE below (s₁.setTop (mkF mM 7 #[.val (.ref t), .val (.int d), .val (.int (Int32.ofNat f)), .val (.int (Int32.ofNat (cs).length)), .val (.int (d.toInt8.toInt32)), .val (.int (Int32.ofNat f))] [])) _
      refine st1 _ ?_
      show Steps pP.tables eE below (T1.setTop (mkF mM 24 Lx1 [(.int (own_ixk cs d f (cs.length - f)))])) _
      exact retI X1 hx Bd.returns (hb hby d_jdk_43_method_23_24) hr
    · show Q_ioc Z t kk cs d f h0 n0 _ T1.heap _
      rw [e1]
      exact ⟨rfl, rfl, rfl⟩
  · obtain ⟨fs, hr, hrun, hended, hW, hsame⟩ := X1.leave (v := some (.int (own_ixk cs d f (cs.length - f)))) (fun h => by rw [Bd.returns] at h; cases h)
    refine ⟨_, _, pre0 _ ?_, hrun, hended, _, _, rfl, ?_, ⟨_, rfl⟩, hW, hsame.mono (by decide) (by decide)⟩
    · refine XS.iloadN X0.here hx rfl (hb hby d_jdk_43_method_23_0) rfl ?_
      show Steps pP.tables eE below (s₁.setTop (mkF mM 1 #[.val (.ref t), .val (.int d), .val (.int (Int32.ofNat f)), .val (.int (Int32.ofNat (cs).length)), .unset, .unset] [(.int d)])) _
      refine XS.i2b X0.here hx rfl (hb hby d_jdk_43_method_23_1) rfl ?_
      show Steps pP.tables eE below (s₁.setTop (mkF mM 2 #[.val (.ref t), .val (.int d), .val (.int (Int32.ofNat f)), .val (.int (Int32.ofNat (cs).length)), .unset, .unset] [(.int (d.toInt8.toInt32))])) _
      refine XS.istore X0.here hx rfl (hb hby d_jdk_43_method_23_2) rfl (l' := #[.val (.ref t), .val (.int d), .val (.int (Int32.ofNat f)), .val (.int (Int32.ofNat (cs).length)), .val (.int (d.toInt8.toInt32)), .unset]) rfl ?_
      show Steps pP.tables eE below (s₁.setTop (mkF mM 4 #[.val (.ref t), .val (.int d), .val (.int (Int32.ofNat f)), .val (.int (Int32.ofNat (cs).length)), .val (.int (d.toInt8.toInt32)), .unset] [])) _
      refine XS.iloadN X0.here hx rfl (hb hby d_jdk_43_method_23_4) rfl ?_
      show Steps pP.tables eE below (s₁.setTop (mkF mM 5 #[.val (.ref t), .val (.int d), .val (.int (Int32.ofNat f)), .val (.int (Int32.ofNat (cs).length)), .val (.int (d.toInt8.toInt32)), .unset] [(.int (Int32.ofNat f))])) _
      refine XS.istore X0.here hx rfl (hb hby d_jdk_43_method_23_5) rfl (l' := #[.val (.ref t), .val (.int d), .val (.int (Int32.ofNat f)), .val (.int (Int32.ofNat (cs).length)), .val (.int (d.toInt8.toInt32)), .val (.int (Int32.ofNat f))]) rfl ?_
      show Steps pP.tables eE below (s₁.setTop (mkF mM 7 #[.val (.ref t), .val (.int d), .val (.int (Int32.ofNat f)), .val (.int (Int32.ofNat (cs).length)), .val (.int (d.toInt8.toInt32)), .val (.int (Int32.ofNat f))] [])) _
      refine st1 _ ?_
      show Steps pP.tables eE below (T1.setTop (mkF mM 32 Lx1 [(.int (own_ixk cs d f (cs.length - f)))])) _
      exact retI X1 hx Bd.returns (hb hby d_jdk_43_method_23_32) hr
    · show Q_ioc Z t kk cs d f h0 n0 _ T1.heap _
      rw [e1]
      exact ⟨rfl, rfl, rfl⟩
theorem ef_lix (m : MethodId) (x0 : Addr) (x1 : Int32) (x2 : Int32) (x3 : Int32) : entryFrame m #[(.ref x0), (.int x1), (.int x2), (.int x3)] 4 = mkF m 0 #[.val (.ref x0), .val (.int x1), .val (.int x2), .val (.int x3)] [] := by first | (simp [entryFrame, mkF, argsToLocals, Value.category]; done) | rfl
def Q_lix (Z : State) (t : Addr) (kk : ClassId) (cs : List Int32) (d : Int32) (f : Nat) (h0 : Heap) (n0 : Nat) (vV : Option Value) (h : Heap) (LL : List Loc) : Prop := vV = some (.int (own_ixk cs d f (cs.length - f))) ∧ LL = [] ∧ h = h0
set_option maxRecDepth 65536 in
set_option maxHeartbeats 40000000 in
theorem rm_lix (l : Launch) (Z : State) (a0 : Array Value) (hw : ∀ d ∈ tables_1, d.before a0 Z = true) (ws : List Jvm.Cond) (t : Addr) (kk : ClassId) (cs : List Int32) (d : Int32) (f : Nat) (h0 : Heap) (n0 : Nat) (O0 : Old Z n0 h0) (V_t : Arv Z h0 t kk .byte (Int32.ofNat (cs).length) (own_b8 cs) (.int 0)) (hp1 : cs.length ≤ 4000) (hp2 : ∀ c ∈ cs, ¬ c < 0 ∧ ¬ (255 : Int32) < c) (hp3 : f ≤ cs.length) :
    MetFree l (⟨"java/lang/StringLatin1", "indexOf", "([BIII)I"⟩ : MethodName) (head1 (Jvm.Cond.code (⟨"java/lang/StringLatin1", "indexOf", "([BIII)I"⟩ : MethodName) jdk_43_method_22_code 4 (some .int) :: ws) ({ frames := 1, cells := 0, slots := 0, locals := 17 } : Room)) (fun aa_ U => aa_ = #[(.ref t), (.int d), (.int (Int32.ofNat f)), (.int (Int32.ofNat (cs).length))] ∧ Z.Warmed39 U.vm ∧ U.heap = h0) (fun _ _ _ _ _ => True) (fun _ U o U' => ∃ vV LL, o = .returned vV ∧ Q_lix Z t kk cs d f h0 n0 vV U'.heap LL ∧ FrameEnd U o U' LL ({ frames := 1, cells := 0, slots := 0, locals := 17 } : Room).cells ({ frames := 1, cells := 0, slots := 0, locals := 17 } : Room).slots) := by
  refine MetFree.of_bodySF (plainFor_of_name pn_0) hisR ?_
  intro pP eE sS mM args below meth cC s₁ Bd hml0 hP hK
  obtain ⟨rfl, hZ, hh⟩ := hP
  have hx := Bd.exec
  have hby := Bd.bytes
  have hml : cC.maxLocals = 4 := hml0
  have hown : sS.vm.findClass "java/lang/StringLatin1" = some mM.cls := findClass_of_methodNamed Bd.named
  have hnm := (name_of_methodNamed Bd.named Bd.method).1
  have X0 : Stand pP l eE ({ frames := 1, cells := 0, slots := 0, locals := 17 } : Room) sS mM #[(.ref t), (.int d), (.int (Int32.ofNat f)), (.int (Int32.ofNat (cs).length))] below meth cC s₁ [] 0 0 := Stand.of_body Bd
  have e0 : s₁.heap = h0 := by rw [← hh, Bd.state]; rfl
  have N0 := Fr.nil n0
  have pre0 : ∀ tg, Steps pP.tables eE below (s₁.setTop (mkF mM 0 #[.val (.ref t), .val (.int d), .val (.int (Int32.ofNat f)), .val (.int (Int32.ofNat (cs).length))] [])) tg → Steps pP.tables eE below (s₁.setTop (entryFrame mM #[(.ref t), (.int d), (.int (Int32.ofNat f)), (.int (Int32.ofNat (cs).length))] 4)) tg := fun tg kg => castTop (ef_lix mM t d (Int32.ofNat f) (Int32.ofNat (cs).length)) kg
  obtain ⟨_, _, ⟨T1, L1, k1, n1⟩, -, X1, ⟨Lc1, hQ1, l1, y1, z1⟩, st1⟩ := Jvm.LawKit.callS X0 hx (y := (⟨"java/lang/StringLatin1", "canEncode", "(I)Z"⟩ : MethodName)) hown (mvT hZ (w_99 hw)) (mvT hZ (w_100 hw)) (mvT hZ (w_97 hw)) (mvT hZ (w_101 hw)) (by decide) (backOf (W := 0) (rm_enc l Z a0 hw [] d h0 n0 O0 ) hZ (w_101 hw) (w_97 hw) (by decide) (by decide)) (g := (mkF mM 1 #[.val (.ref t), .val (.int d), .val (.int (Int32.ofNat f)), .val (.int (Int32.ofNat (cs).length))] [(.int d)])) rfl (by rw [hml]; rfl) (argsL := [(.int d)]) (rest := []) (lenOf pd_0 rfl) rfl (by show 2 * 0 + _ ≤ _; exact Nat.le_of_eq rfl) (hb hby d_jdk_43_method_22_1) (fun _ _ => ⟨rfl, e0, (by decide : 0 + 0 ≤ _), (by decide : 0 + 0 ≤ _)⟩)
  dsimp only [Pt.U, Pt.locs, Pt.cells, Pt.slots] at X1 l1 y1 z1 st1 hQ1
  subst l1 y1 z1
  obtain ⟨rfl, rfl, Kq1⟩ := hQ1
  try rw [List.append_nil] at X1
  have pre3 : ∀ tg, Steps pP.tables eE below (T1.setTop (mkF mM 4 #[.val (.ref t), .val (.int d), .val (.int (Int32.ofNat f)), .val (.int (Int32.ofNat (cs).length))] [(.int (own_enc d))])) tg → Steps pP.tables eE below (s₁.setTop (entryFrame mM #[(.ref t), (.int d), (.int (Int32.ofNat f)), (.int (Int32.ofNat (cs).length))] 4)) tg := fun tg kg => pre0 tg (by
    refine XS.iloadN X0.here hx rfl (hb hby d_jdk_43_method_22_0) rfl ?_
    show Steps pP.tables eE below (s₁.setTop (mkF mM 1 #[.val (.ref t), .val (.int d), .val (.int (Int32.ofNat f)), .val (.int (Int32.ofNat (cs).length))] [(.int d)])) _
    refine st1 _ ?_
    exact kg)
  by_cases hc2 : (own_enc d) = (0 : Int32)
  · obtain ⟨fs, hr, hrun, hended, hW, hsame⟩ := X1.leave (v := some (.int (-1 : Int32))) (fun h => by rw [Bd.returns] at h; cases h)
    refine ⟨_, _, pre3 _ ?_, hrun, hended, _, _, rfl, ?_, ⟨_, rfl⟩, hW, hsame.mono (by decide) (by decide)⟩
    · refine XS.ifNo X1.here hx rfl (hb hby d_jdk_43_method_22_4) rfl ((if0 _ _).trans (teq hc2).2) ?_
      show Steps pP.tables eE below (T1.setTop (mkF mM 7 #[.val (.ref t), .val (.int d), .val (.int (Int32.ofNat f)), .val (.int (Int32.ofNat (cs).length))] [])) _
      refine XS.iconst X1.here hx rfl (hb hby d_jdk_43_method_22_7) ?_
      show Steps pP.tables eE below (T1.setTop (mkF mM 8 #[.val (.ref t), .val (.int d), .val (.int (Int32.ofNat f)), .val (.int (Int32.ofNat (cs).length))] [(.int (-1 : Int32))])) _
      exact retI X1 hx Bd.returns (hb hby d_jdk_43_method_22_8) hr
    · show Q_lix Z t kk cs d f h0 n0 _ T1.heap _
      rw [Kq1]
      exact ⟨(by rw [own_enc_bad hc2 hp2 _ _ (by omega)]), rfl, rfl⟩
  · obtain ⟨_, _, ⟨T5, L5, k5, n5⟩, -, X5, ⟨Lc5, hQ5, l5, y5, z5⟩, st5⟩ := Jvm.LawKit.callS X1 hx (y := (⟨"java/lang/Math", "max", "(II)I"⟩ : MethodName)) hown (mvT hZ (w_102 hw)) (mvT hZ (w_103 hw)) (mvT hZ (w_104 hw)) (mvT hZ (w_105 hw)) (by decide) (backOf (W := 0) (rm_max l Z a0 hw [] (Int32.ofNat f) (0 : Int32) h0 n0 O0 ) hZ (w_105 hw) (w_104 hw) (by decide) (by decide)) (g := (mkF mM 11 #[.val (.ref t), .val (.int d), .val (.int (Int32.ofNat f)), .val (.int (Int32.ofNat (cs).length))] [(.int (0 : Int32)), (.int (Int32.ofNat f))])) rfl (by rw [hml]; rfl) (argsL := [(.int (Int32.ofNat f)), (.int (0 : Int32))]) (rest := []) (lenOf pd_1 rfl) rfl (by show 2 * 0 + _ ≤ _; exact Nat.le_of_eq rfl) (hb hby d_jdk_43_method_22_11) (fun _ _ => ⟨rfl, Kq1, (by decide : 0 + 0 ≤ _), (by decide : 0 + 0 ≤ _)⟩)
    dsimp only [Pt.U, Pt.locs, Pt.cells, Pt.slots] at X5 l5 y5 z5 st5 hQ5
    subst l5 y5 z5
    obtain ⟨rfl, rfl, Kq5⟩ := hQ5
    try rw [List.append_nil] at X5
    obtain ⟨cl6, Ar6, -, S6, Nn6, -, -⟩ := id V_t
    obtain ⟨_, _, ⟨T7, L7, k7, n7⟩, -, X7, ⟨Lc7, hQ7, l7, y7, z7⟩, st7⟩ := Jvm.LawKit.callS X5 hx (y := (⟨"java/lang/Math", "min", "(II)I"⟩ : MethodName)) hown (mvT hZ (w_106 hw)) (mvT hZ (w_107 hw)) (mvT hZ (w_104 hw)) (mvT hZ (w_108 hw)) (by decide) (backOf (W := 0) (rm_min l Z a0 hw [] (Int32.ofNat (cs).length) (Int32.ofNat (cs).length) h0 n0 O0 ) hZ (w_108 hw) (w_104 hw) (by decide) (by decide)) (g := (mkF mM 18 #[.val (.ref t), .val (.int d), .val (.int (Int32.ofNat f)), .val (.int (Int32.ofNat (cs).length))] [(.int (Int32.ofNat (cs).length)), (.int (Int32.ofNat (cs).length))])) rfl (by rw [hml]; rfl) (argsL := [(.int (Int32.ofNat (cs).length)), (.int (Int32.ofNat (cs).length))]) (rest := []) (lenOf pd_1 rfl) rfl (by show 2 * 0 + _ ≤ _; exact Nat.le_of_eq rfl) (hb hby d_jdk_43_method_22_18) (fun _ _ => ⟨rfl, Kq5, (by decide : 0 + 0 ≤ _), (by decide : 0 + 0 ≤ _)⟩)
    dsimp only [Pt.U, Pt.locs, Pt.cells, Pt.slots] at X7 l7 y7 z7 st7 hQ7
    subst l7 y7 z7
    obtain ⟨rfl, rfl, Kq7⟩ := hQ7
    try rw [List.append_nil] at X7
    have pre9 : ∀ tg, Steps pP.tables eE below (T7.setTop (mkF mM 24 #[.val (.ref t), .val (.int d), .val (.int (Int32.ofNat f)), .val (.int (Int32.ofNat (cs).length))] [(.int (Int32.ofNat (cs).length)), (.int (Int32.ofNat f))])) tg → Steps pP.tables eE below (s₁.setTop (entryFrame mM #[(.ref t), (.int d), (.int (Int32.ofNat f)), (.int (Int32.ofNat (cs).length))] 4)) tg := fun tg kg => pre3 tg (by
      refine XS.ifYes X1.here hx rfl (pc0 := 4) (pc' := 9) rfl (hb hby d_jdk_43_method_22_4) rfl ((if0 _ _).trans (feq hc2).2) (by decide) (by decide) ?_
      show Steps pP.tables eE below (T1.setTop (mkF mM 9 #[.val (.ref t), .val (.int d), .val (.int (Int32.ofNat f)), .val (.int (Int32.ofNat (cs).length))] [])) _
      refine XS.iloadN X1.here hx rfl (hb hby d_jdk_43_method_22_9) rfl ?_
      show Steps pP.tables eE below (T1.setTop (mkF mM 10 #[.val (.ref t), .val (.int d), .val (.int (Int32.ofNat f)), .val (.int (Int32.ofNat (cs).length))] [(.int (Int32.ofNat f))])) _
      refine XS.iconst X1.here hx rfl (hb hby d_jdk_43_method_22_10) ?_
      show Steps pP.tables eE below (T1.setTop (mkF mM 11 #[.val (.ref t), .val (.int d), .val (.int (Int32.ofNat f)), .val (.int (Int32.ofNat (cs).length))] [(.int (0 : Int32)), (.int (Int32.ofNat f))])) _
      refine st5 _ ?_
      show Steps pP.tables eE below (T5.setTop (mkF mM 14 #[.val (.ref t), .val (.int d), .val (.int (Int32.ofNat f)), .val (.int (Int32.ofNat (cs).length))] [(.int (own_max (Int32.ofNat f) (0 : Int32)))])) _
      rw [show own_max (Int32.ofNat f) (0 : Int32) = Int32.ofNat f from if_neg (own_nneg _ (by omega))]
      show Steps pP.tables eE below (T5.setTop (mkF mM 14 #[.val (.ref t), .val (.int d), .val (.int (Int32.ofNat f)), .val (.int (Int32.ofNat (cs).length))] [(.int (Int32.ofNat f))])) _
      refine XS.istoreN X5.here hx rfl (hb hby d_jdk_43_method_22_14) rfl (l' := #[.val (.ref t), .val (.int d), .val (.int (Int32.ofNat f)), .val (.int (Int32.ofNat (cs).length))]) rfl ?_
      show Steps pP.tables eE below (T5.setTop (mkF mM 15 #[.val (.ref t), .val (.int d), .val (.int (Int32.ofNat f)), .val (.int (Int32.ofNat (cs).length))] [])) _
      refine XS.iloadN X5.here hx rfl (hb hby d_jdk_43_method_22_15) rfl ?_
      show Steps pP.tables eE below (T5.setTop (mkF mM 16 #[.val (.ref t), .val (.int d), .val (.int (Int32.ofNat f)), .val (.int (Int32.ofNat (cs).length))] [(.int (Int32.ofNat (cs).length))])) _
      refine XS.aloadN X5.here hx rfl (hb hby d_jdk_43_method_22_16) rfl rfl ?_
      show Steps pP.tables eE below (T5.setTop (mkF mM 17 #[.val (.ref t), .val (.int d), .val (.int (Int32.ofNat f)), .val (.int (Int32.ofNat (cs).length))] [(.ref t), (.int (Int32.ofNat (cs).length))])) _
      refine X5.arraylength hx (by rw [Kq5]; exact Ar6.1) (State.isArrayOf_alike hZ.alike Ar6.2.1) (g := (mkF mM 17 #[.val (.ref t), .val (.int d), .val (.int (Int32.ofNat f)), .val (.int (Int32.ofNat (cs).length))] [(.ref t), (.int (Int32.ofNat (cs).length))])) rfl rfl (hb hby d_jdk_43_method_22_17) _ ?_
      rw [len_of S6 Nn6]
      show Steps pP.tables eE below (T5.setTop (mkF mM 18 #[.val (.ref t), .val (.int d), .val (.int (Int32.ofNat f)), .val (.int (Int32.ofNat (cs).length))] [(.int (Int32.ofNat (cs).length)), (.int (Int32.ofNat (cs).length))])) _
      refine st7 _ ?_
      show Steps pP.tables eE below (T7.setTop (mkF mM 21 #[.val (.ref t), .val (.int d), .val (.int (Int32.ofNat f)), .val (.int (Int32.ofNat (cs).length))] [(.int (own_min (Int32.ofNat (cs).length) (Int32.ofNat (cs).length)))])) _
      rw [show own_min (Int32.ofNat (cs).length) (Int32.ofNat (cs).length) = Int32.ofNat (cs).length from if_neg (fun q => absurd (own_ltI q (by omega) (by omega)) (by omega))]
      show Steps pP.tables eE below (T7.setTop (mkF mM 21 #[.val (.ref t), .val (.int d), .val (.int (Int32.ofNat f)), .val (.int (Int32.ofNat (cs).length))] [(.int (Int32.ofNat (cs).length))])) _
      refine XS.istoreN X7.here hx rfl (hb hby d_jdk_43_method_22_21) rfl (l' := #[.val (.ref t), .val (.int d), .val (.int (Int32.ofNat f)), .val (.int (Int32.ofNat (cs).length))]) rfl ?_
      show Steps pP.tables eE below (T7.setTop (mkF mM 22 #[.val (.ref t), .val (.int d), .val (.int (Int32.ofNat f)), .val (.int (Int32.ofNat (cs).length))] [])) _
      refine XS.iloadN X7.here hx rfl (hb hby d_jdk_43_method_22_22) rfl ?_
      show Steps pP.tables eE below (T7.setTop (mkF mM 23 #[.val (.ref t), .val (.int d), .val (.int (Int32.ofNat f)), .val (.int (Int32.ofNat (cs).length))] [(.int (Int32.ofNat f))])) _
      refine XS.iloadN X7.here hx rfl (hb hby d_jdk_43_method_22_23) rfl ?_
      exact kg)
    by_cases hc8 : (Int32.ofNat f) < (Int32.ofNat (cs).length)
    · obtain ⟨_, _, ⟨T10, L10, k10, n10⟩, -, X10, ⟨Lc10, hQ10, l10, y10, z10⟩, st10⟩ := Jvm.LawKit.callS X7 hx (y := (⟨"java/lang/StringLatin1", "indexOfChar", "([BIII)I"⟩ : MethodName)) hown (mvT hZ (w_109 hw)) (mvT hZ (w_110 hw)) (mvT hZ (w_97 hw)) (mvT hZ (w_111 hw)) (by decide) (backOf (W := 0) (rm_ioc l Z a0 hw [] t kk cs d f h0 n0 O0 V_t hp1 hp2 (own_enc_ok hc2 : ¬ d < 0 ∧ ¬ (255 : Int32) < d) hp3) hZ (w_111 hw) (w_97 hw) (by decide) (by decide)) (g := (mkF mM 33 #[.val (.ref t), .val (.int d), .val (.int (Int32.ofNat f)), .val (.int (Int32.ofNat (cs).length))] [(.int (Int32.ofNat (cs).length)), (.int (Int32.ofNat f)), (.int d), (.ref t)])) rfl (by rw [hml]; rfl) (argsL := [(.ref t), (.int d), (.int (Int32.ofNat f)), (.int (Int32.ofNat (cs).length))]) (rest := []) (lenOf pd_2 rfl) rfl (by show 2 * 0 + _ ≤ _; exact Nat.le_of_eq rfl) (hb hby d_jdk_43_method_22_33) (fun _ _ => ⟨rfl, Kq7, (by decide : 0 + 0 ≤ _), (by decide : 0 + 0 ≤ _)⟩)
      dsimp only [Pt.U, Pt.locs, Pt.cells, Pt.slots] at X10 l10 y10 z10 st10 hQ10
      subst l10 y10 z10
      obtain ⟨rfl, rfl, Kq10⟩ := hQ10
      try rw [List.append_nil] at X10
      obtain ⟨fs, hr, hrun, hended, hW, hsame⟩ := X10.leave (v := some (.int (own_ixk cs d f (cs.length - f)))) (fun h => by rw [Bd.returns] at h; cases h)
      refine ⟨_, _, pre9 _ ?_, hrun, hended, _, _, rfl, ?_, ⟨_, rfl⟩, hW, hsame.mono (by decide) (by decide)⟩
      · refine XS.icmpYes X7.here hx rfl (pc0 := 24) (pc' := 29) rfl (hb hby d_jdk_43_method_22_24) rfl (tlt hc8).1 (by decide) (by decide) ?_
        show Steps pP.tables eE below (T7.setTop (mkF mM 29 #[.val (.ref t), .val (.int d), .val (.int (Int32.ofNat f)), .val (.int (Int32.ofNat (cs).length))] [])) _
        refine XS.aloadN X7.here hx rfl (hb hby d_jdk_43_method_22_29) rfl rfl ?_
        show Steps pP.tables eE below (T7.setTop (mkF mM 30 #[.val (.ref t), .val (.int d), .val (.int (Int32.ofNat f)), .val (.int (Int32.ofNat (cs).length))] [(.ref t)])) _
        refine XS.iloadN X7.here hx rfl (hb hby d_jdk_43_method_22_30) rfl ?_
        show Steps pP.tables eE below (T7.setTop (mkF mM 31 #[.val (.ref t), .val (.int d), .val (.int (Int32.ofNat f)), .val (.int (Int32.ofNat (cs).length))] [(.int d), (.ref t)])) _
        refine XS.iloadN X7.here hx rfl (hb hby d_jdk_43_method_22_31) rfl ?_
        show Steps pP.tables eE below (T7.setTop (mkF mM 32 #[.val (.ref t), .val (.int d), .val (.int (Int32.ofNat f)), .val (.int (Int32.ofNat (cs).length))] [(.int (Int32.ofNat f)), (.int d), (.ref t)])) _
        refine XS.iloadN X7.here hx rfl (hb hby d_jdk_43_method_22_32) rfl ?_
        show Steps pP.tables eE below (T7.setTop (mkF mM 33 #[.val (.ref t), .val (.int d), .val (.int (Int32.ofNat f)), .val (.int (Int32.ofNat (cs).length))] [(.int (Int32.ofNat (cs).length)), (.int (Int32.ofNat f)), (.int d), (.ref t)])) _
        refine st10 _ ?_
        show Steps pP.tables eE below (T10.setTop (mkF mM 36 #[.val (.ref t), .val (.int d), .val (.int (Int32.ofNat f)), .val (.int (Int32.ofNat (cs).length))] [(.int (own_ixk cs d f (cs.length - f)))])) _
        exact retI X10 hx Bd.returns (hb hby d_jdk_43_method_22_36) hr
      · show Q_lix Z t kk cs d f h0 n0 _ T10.heap _
        rw [Kq10]
        exact ⟨rfl, rfl, rfl⟩
    · obtain ⟨fs, hr, hrun, hended, hW, hsame⟩ := X7.leave (v := some (.int (-1 : Int32))) (fun h => by rw [Bd.returns] at h; cases h)
      refine ⟨_, _, pre9 _ ?_, hrun, hended, _, _, rfl, ?_, ⟨_, rfl⟩, hW, hsame.mono (by decide) (by decide)⟩
      · refine XS.icmpNo X7.here hx rfl (hb hby d_jdk_43_method_22_24) rfl (flt hc8).1 ?_
        show Steps pP.tables eE below (T7.setTop (mkF mM 27 #[.val (.ref t), .val (.int d), .val (.int (Int32.ofNat f)), .val (.int (Int32.ofNat (cs).length))] [])) _
        refine XS.iconst X7.here hx rfl (hb hby d_jdk_43_method_22_27) ?_
        show Steps pP.tables eE below (T7.setTop (mkF mM 28 #[.val (.ref t), .val (.int d), .val (.int (Int32.ofNat f)), .val (.int (Int32.ofNat (cs).length))] [(.int (-1 : Int32))])) _
        exact retI X7 hx Bd.returns (hb hby d_jdk_43_method_22_28) hr
      · show Q_lix Z t kk cs d f h0 n0 _ T7.heap _
        rw [Kq7]
        exact ⟨(by have q := own_nltI hc8 (by omega) (by omega); rw [show cs.length - f = 0 by omega]; rfl), rfl, rfl⟩
theorem ef_io (m : MethodId) (x0 : Addr) (x1 : Int32) (x2 : Int32) : entryFrame m #[(.ref x0), (.int x1), (.int x2)] 3 = mkF m 0 #[.val (.ref x0), .val (.int x1), .val (.int x2)] [] := by first | (simp [entryFrame, mkF, argsToLocals, Value.category]; done) | rfl
def Q_io (Z : State) (x : Addr) (t : Addr) (kk : ClassId) (cs : List Int32) (d : Int32) (f : Nat) (zc : Int32) (fm : Value) (h0 : Heap) (n0 : Nat) (vV : Option Value) (h : Heap) (LL : List Loc) : Prop := vV = some (.int (own_ixk cs d f (cs.length - f))) ∧ LL = [] ∧ h = h0
set_option maxRecDepth 65536 in
set_option maxHeartbeats 40000000 in
theorem rm_io (l : Launch) (Z : State) (a0 : Array Value) (hw : ∀ d ∈ tables_1, d.before a0 Z = true) (ws : List Jvm.Cond) (x : Addr) (t : Addr) (kk : ClassId) (cs : List Int32) (d : Int32) (f : Nat) (zc : Int32) (fm : Value) (h0 : Heap) (n0 : Nat) (O0 : Old Z n0 h0) (Str_x : own_Str Z h0 x t kk cs) (hp1 : f ≤ cs.length) (S_COMPACT_STRINGS : Sta Z Z.heap "java/lang/String" "COMPACT_STRINGS" "Z" (.int zc)) (hp3 : ¬ (zc = (0 : Int32))) (S_SIOOBE_FORMATTER : Sta Z Z.heap "jdk/internal/util/Preconditions" "SIOOBE_FORMATTER" "Ljava/util/function/BiFunction;" fm) (hp5 : fm.isRef = true) :
    MetFree l (⟨"java/lang/String", "indexOf", "(II)I"⟩ : MethodName) (head1 (Jvm.Cond.code (⟨"java/lang/String", "indexOf", "(II)I"⟩ : MethodName) jdk_42_method_80_code 3 (some .int) :: ws) ({ frames := 2, cells := 0, slots := 0, locals := 32 } : Room)) (fun aa_ U => aa_ = #[(.ref x), (.int d), (.int (Int32.ofNat f))] ∧ Z.Warmed39 U.vm ∧ U.heap = h0) (fun _ _ _ _ _ => True) (fun _ U o U' => ∃ vV LL, o = .returned vV ∧ Q_io Z x t kk cs d f zc fm h0 n0 vV U'.heap LL ∧ FrameEnd U o U' LL ({ frames := 2, cells := 0, slots := 0, locals := 32 } : Room).cells ({ frames := 2, cells := 0, slots := 0, locals := 32 } : Room).slots) := by
  refine MetFree.of_bodySF (plainFor_of_name pn_1) hisR ?_
  intro pP eE sS mM args below meth cC s₁ Bd hml0 hP hK
  obtain ⟨rfl, hZ, hh⟩ := hP
  have hx := Bd.exec
  have hby := Bd.bytes
  have hml : cC.maxLocals = 3 := hml0
  have hown : sS.vm.findClass "java/lang/String" = some mM.cls := findClass_of_methodNamed Bd.named
  have hnm := (name_of_methodNamed Bd.named Bd.method).1
  have X0 : Stand pP l eE ({ frames := 2, cells := 0, slots := 0, locals := 32 } : Room) sS mM #[(.ref x), (.int d), (.int (Int32.ofNat f))] below meth cC s₁ [] 0 0 := Stand.of_body Bd
  have e0 : s₁.heap = h0 := by rw [← hh, Bd.state]; rfl
  have N0 := Fr.nil n0
  have pre0 : ∀ tg, Steps pP.tables eE below (s₁.setTop (mkF mM 0 #[.val (.ref x), .val (.int d), .val (.int (Int32.ofNat f))] [])) tg → Steps pP.tables eE below (s₁.setTop (entryFrame mM #[(.ref x), (.int d), (.int (Int32.ofNat f))] 3)) tg := fun tg kg => castTop (ef_io mM x d (Int32.ofNat f)) kg
  obtain ⟨cq1, kq1, q1a, q1b, q1c⟩ := isOf hZ e0 (Str_x).1
  obtain ⟨_, _, ⟨T1, L1, k1, n1⟩, -, X1, ⟨Lc1, hQ1, l1, y1, z1⟩, st1⟩ := X0.virtualBack hx (y := (⟨"java/lang/String", "isLatin1", "()Z"⟩ : MethodName)) (z := (⟨"java/lang/String", "isLatin1", "()Z"⟩ : MethodName)) hown (mvT hZ (w_89 hw)) (mvT hZ (w_90 hw)) (notFace_of_selects (args := #[]) (mvT hZ (w_92 hw))) (mvT hZ (w_92 hw)) (mvT hZ (w_91 hw)) (by decide) (backOf (W := 0) (rm_lat l Z a0 hw [] x zc h0 n0 O0 (Str_x).2.2.1 S_COMPACT_STRINGS hp3) hZ (w_93 hw) (w_3 hw) (by decide) (by decide)) q1a q1c (g := (mkF mM 1 #[.val (.ref x), .val (.int d), .val (.int (Int32.ofNat f))] [(.ref x)])) rfl (by rw [hml]; rfl) (Steps.refl _) (argsL := []) (rest := []) (lenOf pd_3 rfl) rfl (by show 2 * 0 + _ ≤ _; exact Nat.le_of_eq rfl) (hb hby d_jdk_42_method_80_1) (fun _ _ => ⟨rfl, e0, (by decide : 0 + 0 ≤ _), (by decide : 0 + 0 ≤ _)⟩)
  dsimp only [Pt.U, Pt.locs, Pt.cells, Pt.slots] at X1 l1 y1 z1 st1 hQ1
  subst l1 y1 z1
  obtain ⟨rfl, rfl, Kq1⟩ := hQ1
  try rw [List.append_nil] at X1
  obtain ⟨T2, X2, e2, st2⟩ := getF X1 hx hZ hown (host := "") (Or.inl (w_28 hw)) Via.refl Kq1 (Str_x).2.1 (g := (mkF mM 8 #[.val (.ref x), .val (.int d), .val (.int (Int32.ofNat f))] [(.ref x)])) rfl rfl (hb hby d_jdk_42_method_80_8)
  obtain ⟨cq3, kq3, q3a, q3b, q3c⟩ := isOf hZ e2 (Str_x).1
  obtain ⟨_, _, ⟨T3, L3, k3, n3⟩, -, X3, ⟨Lc3, hQ3, l3, y3, z3⟩, st3⟩ := X2.virtualBack hx (y := (⟨"java/lang/String", "length", "()I"⟩ : MethodName)) (z := (⟨"java/lang/String", "length", "()I"⟩ : MethodName)) hown (mvT hZ (w_94 hw)) (mvT hZ (w_64 hw)) (notFace_of_selects (args := #[]) (mvT hZ (w_66 hw))) (mvT hZ (w_66 hw)) (mvT hZ (w_65 hw)) (by decide) (own_len (W := 3) hZ hw (⟨(Str_x).1, (Str_x).2.1, (Str_x).2.2.1, (Str_x).2.2.2.1, (Str_x).2.2.2.2⟩ : own_Str Z h0 x t kk cs) (Sta.ext (O0).2 S_COMPACT_STRINGS) hp3 (by decide) (by decide)) q3a q3c (g := (mkF mM 14 #[.val (.ref x), .val (.int d), .val (.int (Int32.ofNat f))] [(.ref x), (.int (Int32.ofNat f)), (.int d), (.ref t)])) rfl (by rw [hml]; rfl) (Steps.refl _) (argsL := []) (rest := [(.int (Int32.ofNat f)), (.int d), (.ref t)]) (lenOf pd_4 rfl) rfl (by show 2 * 0 + _ ≤ _; exact Nat.le_of_eq rfl) (hb hby d_jdk_42_method_80_14) (fun _ _ => ⟨rfl, e2, (by decide : 0 + 0 ≤ _), (by decide : 0 + 0 ≤ _)⟩)
  dsimp only [Pt.U, Pt.locs, Pt.cells, Pt.slots] at X3 l3 y3 z3 st3 hQ3
  subst l3 y3 z3
  obtain ⟨rfl, rfl, Kq3⟩ := hQ3
  try rw [List.append_nil] at X3
  obtain ⟨_, _, ⟨T4, L4, k4, n4⟩, -, X4, ⟨Lc4, hQ4, l4, y4, z4⟩, st4⟩ := Jvm.LawKit.callS X3 hx (y := (⟨"java/lang/StringLatin1", "indexOf", "([BIII)I"⟩ : MethodName)) hown (mvT hZ (w_95 hw)) (mvT hZ (w_96 hw)) (mvT hZ (w_97 hw)) (mvT hZ (w_98 hw)) (by decide) (backOf (W := 0) (rm_lix l Z a0 hw [] t kk cs d f h0 n0 O0 (Str_x).2.2.2.1 (Str_x.2.2.2.2.1 : cs.length ≤ 4000) (Str_x.2.2.2.2.2 : ∀ c ∈ cs, ¬ c < 0 ∧ ¬ (255 : Int32) < c) hp1) hZ (w_98 hw) (w_97 hw) (by decide) (by decide)) (g := (mkF mM 17 #[.val (.ref x), .val (.int d), .val (.int (Int32.ofNat f))] [(.int (Int32.ofNat (cs).length)), (.int (Int32.ofNat f)), (.int d), (.ref t)])) rfl (by rw [hml]; rfl) (argsL := [(.ref t), (.int d), (.int (Int32.ofNat f)), (.int (Int32.ofNat (cs).length))]) (rest := []) (lenOf pd_2 rfl) rfl (by show 2 * 0 + _ ≤ _; exact Nat.le_of_eq rfl) (hb hby d_jdk_42_method_80_17) (fun _ _ => ⟨rfl, Kq3, (by decide : 0 + 0 ≤ _), (by decide : 0 + 0 ≤ _)⟩)
  dsimp only [Pt.U, Pt.locs, Pt.cells, Pt.slots] at X4 l4 y4 z4 st4 hQ4
  subst l4 y4 z4
  obtain ⟨rfl, rfl, Kq4⟩ := hQ4
  try rw [List.append_nil] at X4
  obtain ⟨fs, hr, hrun, hended, hW, hsame⟩ := X4.leave (v := some (.int (own_ixk cs d f (cs.length - f)))) (fun h => by rw [Bd.returns] at h; cases h)
  refine ⟨_, _, pre0 _ ?_, hrun, hended, _, _, rfl, ?_, ⟨_, rfl⟩, hW, hsame.mono (by decide) (by decide)⟩
  · refine XS.aloadN X0.here hx rfl (hb hby d_jdk_42_method_80_0) rfl rfl ?_
    show Steps pP.tables eE below (s₁.setTop (mkF mM 1 #[.val (.ref x), .val (.int d), .val (.int (Int32.ofNat f))] [(.ref x)])) _
    refine st1.trans ?_
    show Steps pP.tables eE below (T1.setTop (mkF mM 4 #[.val (.ref x), .val (.int d), .val (.int (Int32.ofNat f))] [(.int (1 : Int32))])) _
    refine XS.ifNo X1.here hx rfl (hb hby d_jdk_42_method_80_4) rfl ((if0 _ _).trans (feq (by decide : ¬ ((1 : Int32) = (0 : Int32)))).1) ?_
    show Steps pP.tables eE below (T1.setTop (mkF mM 7 #[.val (.ref x), .val (.int d), .val (.int (Int32.ofNat f))] [])) _
    refine XS.aloadN X1.here hx rfl (hb hby d_jdk_42_method_80_7) rfl rfl ?_
    show Steps pP.tables eE below (T1.setTop (mkF mM 8 #[.val (.ref x), .val (.int d), .val (.int (Int32.ofNat f))] [(.ref x)])) _
    refine st2 _ ?_
    show Steps pP.tables eE below (T2.setTop (mkF mM 11 #[.val (.ref x), .val (.int d), .val (.int (Int32.ofNat f))] [(.ref t)])) _
    refine XS.iloadN X2.here hx rfl (hb hby d_jdk_42_method_80_11) rfl ?_
    show Steps pP.tables eE below (T2.setTop (mkF mM 12 #[.val (.ref x), .val (.int d), .val (.int (Int32.ofNat f))] [(.int d), (.ref t)])) _
    refine XS.iloadN X2.here hx rfl (hb hby d_jdk_42_method_80_12) rfl ?_
    show Steps pP.tables eE below (T2.setTop (mkF mM 13 #[.val (.ref x), .val (.int d), .val (.int (Int32.ofNat f))] [(.int (Int32.ofNat f)), (.int d), (.ref t)])) _
    refine XS.aloadN X2.here hx rfl (hb hby d_jdk_42_method_80_13) rfl rfl ?_
    show Steps pP.tables eE below (T2.setTop (mkF mM 14 #[.val (.ref x), .val (.int d), .val (.int (Int32.ofNat f))] [(.ref x), (.int (Int32.ofNat f)), (.int d), (.ref t)])) _
    refine st3.trans ?_
    show Steps pP.tables eE below (T3.setTop (mkF mM 17 #[.val (.ref x), .val (.int d), .val (.int (Int32.ofNat f))] [(.int (Int32.ofNat (cs).length)), (.int (Int32.ofNat f)), (.int d), (.ref t)])) _
    refine st4 _ ?_
    show Steps pP.tables eE below (T4.setTop (mkF mM 20 #[.val (.ref x), .val (.int d), .val (.int (Int32.ofNat f))] [(.int (own_ixk cs d f (cs.length - f)))])) _
    refine XS.goto X4.here hx rfl (pc0 := 20) (pc' := 36) rfl (hb hby d_jdk_42_method_80_20) (by decide) (by decide) ?_
    show Steps pP.tables eE below (T4.setTop (mkF mM 36 #[.val (.ref x), .val (.int d), .val (.int (Int32.ofNat f))] [(.int (own_ixk cs d f (cs.length - f)))])) _
    exact retI X4 hx Bd.returns (hb hby d_jdk_42_method_80_36) hr
  · show Q_io Z x t kk cs d f zc fm h0 n0 _ T4.heap _
    rw [Kq4]
    exact ⟨rfl, rfl, rfl⟩
theorem ef_pinit (m : MethodId) (x0 : Addr) (x1 : Addr) (x2 : Int32) (x3 : Int32) (x4 : Int32) : entryFrame m #[(.ref x0), (.ref x1), (.int x2), (.int x3), (.int x4)] 5 = mkF m 0 #[.val (.ref x0), .val (.ref x1), .val (.int x2), .val (.int x3), .val (.int x4)] [] := by first | (simp [entryFrame, mkF, argsToLocals, Value.category]; done) | rfl
def Q_pinit (Z : State) (a : Addr) (x : Addr) (d : Int32) (f : Int32) (tt : Int32) (u1 : Value) (u2 : Value) (u3 : Value) (u4 : Value) (u5 : Value) (u6 : Value) (h0 : Heap) (n0 : Nat) (vV : Option Value) (h : Heap) (LL : List Loc) : Prop := vV = none ∧ Fr n0 LL ∧ Keep h0 h [a] ∧ Exa Z h a "com/example/resultwire/resultwire/er7/Pieces" ∧ Fld Z h a "com/example/resultwire/resultwire/er7/Pieces" "m_sText" "Ljava/lang/String;" (.ref x) ∧ Fld Z h a "com/example/resultwire/resultwire/er7/Pieces" "m_nDelimiter" "I" (.int d) ∧ Fld Z h a "com/example/resultwire/resultwire/er7/Pieces" "m_nTo" "I" (.int tt) ∧ Fld Z h a "com/example/resultwire/resultwire/er7/Pieces" "m_nFrom" "I" (.int f) ∧ Fld Z h a "com/example/resultwire/resultwire/er7/Pieces" "m_nEnd" "I" (.int f) ∧ Fld Z h a "com/example/resultwire/resultwire/er7/Pieces" "m_nStart" "I" (.int f) ∧ Fld Z h a "com/example/resultwire/resultwire/er7/Pieces" "m_nNumber" "I" (.int (0 : Int32))
set_option maxRecDepth 65536 in
set_option maxHeartbeats 40000000 in
theorem rm_pinit (l : Launch) (Z : State) (a0 : Array Value) (hw : ∀ d ∈ tables_1, d.before a0 Z = true) (ws : List Jvm.Cond) (a : Addr) (x : Addr) (d : Int32) (f : Int32) (tt : Int32) (u1 : Value) (u2 : Value) (u3 : Value) (u4 : Value) (u5 : Value) (u6 : Value) (h0 : Heap) (n0 : Nat) (O0 : Old Z n0 h0) (E_a : Exa Z h0 a "com/example/resultwire/resultwire/er7/Pieces") (F_a_m_sText : Fld Z h0 a "com/example/resultwire/resultwire/er7/Pieces" "m_sText" "Ljava/lang/String;" u1) (F_a_m_nDelimiter : Fld Z h0 a "com/example/resultwire/resultwire/er7/Pieces" "m_nDelimiter" "I" u2) (F_a_m_nTo : Fld Z h0 a "com/example/resultwire/resultwire/er7/Pieces" "m_nTo" "I" u3) (F_a_m_nFrom : Fld Z h0 a "com/example/resultwire/resultwire/er7/Pieces" "m_nFrom" "I" u4) (F_a_m_nStart : Fld Z h0 a "com/example/resultwire/resultwire/er7/Pieces" "m_nStart" "I" u5) (F_a_m_nEnd : Fld Z h0 a "com/example/resultwire/resultwire/er7/Pieces" "m_nEnd" "I" u6) (F_a_m_nNumber : Fld Z h0 a "com/example/resultwire/resultwire/er7/Pieces" "m_nNumber" "I" (.int (0 : Int32))) (g_a : n0 ≤ a) :
    MetFree l (⟨"com/example/resultwire/resultwire/er7/Pieces", "<init>", "(Ljava/lang/String;III)V"⟩ : MethodName) (head1 (Jvm.Cond.code (⟨"com/example/resultwire/resultwire/er7/Pieces", "<init>", "(Ljava/lang/String;III)V"⟩ : MethodName) prog_141_method_1_code 5 none :: ws) ({ frames := 1, cells := 0, slots := 0, locals := 12 } : Room)) (fun aa_ U => aa_ = #[(.ref a), (.ref x), (.int d), (.int f), (.int tt)] ∧ Z.Warmed39 U.vm ∧ U.heap = h0) (fun _ _ _ _ _ => True) (fun _ U o U' => ∃ vV LL, o = .returned vV ∧ Q_pinit Z a x d f tt u1 u2 u3 u4 u5 u6 h0 n0 vV U'.heap LL ∧ FrameEnd U o U' LL ({ frames := 1, cells := 0, slots := 0, locals := 12 } : Room).cells ({ frames := 1, cells := 0, slots := 0, locals := 12 } : Room).slots) := by
  refine MetFree.of_bodySF (plainFor_of_name pn_2) hisR ?_
  intro pP eE sS mM args below meth cC s₁ Bd hml0 hP hK
  obtain ⟨rfl, hZ, hh⟩ := hP
  have hx := Bd.exec
  have hby := Bd.bytes
  have hml : cC.maxLocals = 5 := hml0
  have hown : sS.vm.findClass "com/example/resultwire/resultwire/er7/Pieces" = some mM.cls := findClass_of_methodNamed Bd.named
  have hnm := (name_of_methodNamed Bd.named Bd.method).1
  have X0 : Stand pP l eE ({ frames := 1, cells := 0, slots := 0, locals := 12 } : Room) sS mM #[(.ref a), (.ref x), (.int d), (.int f), (.int tt)] below meth cC s₁ [] 0 0 := Stand.of_body Bd
  have e0 : s₁.heap = h0 := by rw [← hh, Bd.state]; rfl
  have N0 := Fr.nil n0
  have pre0 : ∀ tg, Steps pP.tables eE below (s₁.setTop (mkF mM 0 #[.val (.ref a), .val (.ref x), .val (.int d), .val (.int f), .val (.int tt)] [])) tg → Steps pP.tables eE below (s₁.setTop (entryFrame mM #[(.ref a), (.ref x), (.int d), (.int f), (.int tt)] 5)) tg := fun tg kg => castTop (ef_pinit mM a x d f tt) kg
  have K0 : Keep h0 h0 [a] := Keep.refl _ _
  obtain ⟨T1, X1, e1, st1⟩ := initO X0 hx hZ hown (w_36 hw) (w_12 hw) (w_13 hw) e0 (g := (mkF mM 1 #[.val (.ref a), .val (.ref x), .val (.int d), .val (.int f), .val (.int tt)] [(.ref a)])) rfl (by rw [hml]; rfl) rfl (hb hby d_prog_141_method_1_1) (by decide) (W := 0) (by show 2 * 0 + _ ≤ _; exact Nat.le_of_eq rfl) (by decide)
  obtain ⟨T2, h2, X2, e2, W2, st2⟩ := putF X1 hx hZ hown (host := "") (Or.inl (w_37 hw)) Via.refl e1 F_a_m_sText E_a (Or.inr ⟨(w_38 hw), rfl, hnm⟩) (w_31 hw) (ty := (.object "java/lang/String")) (by decide) rfl rfl (g := (mkF mM 6 #[.val (.ref a), .val (.ref x), .val (.int d), .val (.int f), .val (.int tt)] [(.ref x), (.ref a)])) rfl rfl (hb hby d_prog_141_method_1_6)
  have K3 : Keep h0 h2 [a] := K0.wr W2 (Or.inl (List.mem_of_getElem? (i := 0) rfl))
  have Fw2 : Fld Z h2 a "com/example/resultwire/resultwire/er7/Pieces" "m_sText" "Ljava/lang/String;" (.ref x) := F_a_m_sText.same W2
  have N2 := Fr.snoc X2 N0 g_a
  have f4 := (F_a_m_nDelimiter.other W2 (Or.inr (slot_ne (Or.inr (w_40 hw)) (Or.inr (w_38 hw)) (by decide) (t := .int) (t' := (.object "java/lang/String")) (by decide) (by decide))))
  have f5 := (E_a.wr W2)
  obtain ⟨T6, h6, X6, e6, W6, st6⟩ := putF X2 hx hZ hown (host := "") (Or.inl (w_39 hw)) Via.refl e2 f4 f5 (Or.inr ⟨(w_40 hw), rfl, hnm⟩) (w_31 hw) (ty := .int) (by decide) rfl rfl (g := (mkF mM 11 #[.val (.ref a), .val (.ref x), .val (.int d), .val (.int f), .val (.int tt)] [(.int d), (.ref a)])) rfl rfl (hb hby d_prog_141_method_1_11)
  have K7 : Keep h0 h6 [a] := K3.wr W6 (Or.inl (List.mem_of_getElem? (i := 0) rfl))
  have Fw6 : Fld Z h6 a "com/example/resultwire/resultwire/er7/Pieces" "m_nDelimiter" "I" (.int d) := f4.same W6
  have N6 := Fr.snoc X6 N2 g_a
  have f8 := ((F_a_m_nTo.other W2 (Or.inr (slot_ne (Or.inr (w_42 hw)) (Or.inr (w_38 hw)) (by decide) (t := .int) (t' := (.object "java/lang/String")) (by decide) (by decide)))).other W6 (Or.inr (slot_ne (Or.inr (w_42 hw)) (Or.inr (w_40 hw)) (by decide) (t := .int) (t' := .int) (by decide) (by decide))))
  have f9 := (f5.wr W6)
  obtain ⟨T10, h10, X10, e10, W10, st10⟩ := putF X6 hx hZ hown (host := "") (Or.inl (w_41 hw)) Via.refl e6 f8 f9 (Or.inr ⟨(w_42 hw), rfl, hnm⟩) (w_31 hw) (ty := .int) (by decide) rfl rfl (g := (mkF mM 17 #[.val (.ref a), .val (.ref x), .val (.int d), .val (.int f), .val (.int tt)] [(.int tt), (.ref a)])) rfl rfl (hb hby d_prog_141_method_1_17)
  have K11 : Keep h0 h10 [a] := K7.wr W10 (Or.inl (List.mem_of_getElem? (i := 0) rfl))
  have Fw10 : Fld Z h10 a "com/example/resultwire/resultwire/er7/Pieces" "m_nTo" "I" (.int tt) := f8.same W10
  have N10 := Fr.snoc X10 N6 g_a
  have f12 := (((F_a_m_nFrom.other W2 (Or.inr (slot_ne (Or.inl (w_44 hw)) (Or.inr (w_38 hw)) (by decide) (t := .int) (t' := (.object "java/lang/String")) (by decide) (by decide)))).other W6 (Or.inr (slot_ne (Or.inl (w_44 hw)) (Or.inr (w_40 hw)) (by decide) (t := .int) (t' := .int) (by decide) (by decide)))).other W10 (Or.inr (slot_ne (Or.inl (w_44 hw)) (Or.inr (w_42 hw)) (by decide) (t := .int) (t' := .int) (by decide) (by decide))))
  have f13 := (f9.wr W10)
  obtain ⟨T14, h14, X14, e14, W14, st14⟩ := putF X10 hx hZ hown (host := "") (Or.inl (w_43 hw)) Via.refl e10 f12 f13 (Or.inl (w_44 hw)) (w_31 hw) (ty := .int) (by decide) rfl rfl (g := (mkF mM 22 #[.val (.ref a), .val (.ref x), .val (.int d), .val (.int f), .val (.int tt)] [(.int f), (.ref a)])) rfl rfl (hb hby d_prog_141_method_1_22)
  have K15 : Keep h0 h14 [a] := K11.wr W14 (Or.inl (List.mem_of_getElem? (i := 0) rfl))
  have Fw14 : Fld Z h14 a "com/example/resultwire/resultwire/er7/Pieces" "m_nFrom" "I" (.int f) := f12.same W14
  have N14 := Fr.snoc X14 N10 g_a
  have f16 := ((((F_a_m_nStart.other W2 (Or.inr (slot_ne (Or.inl (w_46 hw)) (Or.inr (w_38 hw)) (by decide) (t := .int) (t' := (.object "java/lang/String")) (by decide) (by decide)))).other W6 (Or.inr (slot_ne (Or.inl (w_46 hw)) (Or.inr (w_40 hw)) (by decide) (t := .int) (t' := .int) (by decide) (by decide)))).other W10 (Or.inr (slot_ne (Or.inl (w_46 hw)) (Or.inr (w_42 hw)) (by decide) (t := .int) (t' := .int) (by decide) (by decide)))).other W14 (Or.inr (slot_ne (Or.inl (w_46 hw)) (Or.inl (w_44 hw)) (by decide) (t := .int) (t' := .int) (by decide) (by decide))))
  have f17 := (f13.wr W14)
  obtain ⟨T18, h18, X18, e18, W18, st18⟩ := putF X14 hx hZ hown (host := "") (Or.inl (w_45 hw)) Via.refl e14 f16 f17 (Or.inl (w_46 hw)) (w_31 hw) (ty := .int) (by decide) rfl rfl (g := (mkF mM 27 #[.val (.ref a), .val (.ref x), .val (.int d), .val (.int f), .val (.int tt)] [(.int f), (.ref a)])) rfl rfl (hb hby d_prog_141_method_1_27)
  have K19 : Keep h0 h18 [a] := K15.wr W18 (Or.inl (List.mem_of_getElem? (i := 0) rfl))
  have Fw18 : Fld Z h18 a "com/example/resultwire/resultwire/er7/Pieces" "m_nStart" "I" (.int f) := f16.same W18
  have N18 := Fr.snoc X18 N14 g_a
  have f20 := (((((F_a_m_nEnd.other W2 (Or.inr (slot_ne (Or.inl (w_48 hw)) (Or.inr (w_38 hw)) (by decide) (t := .int) (t' := (.object "java/lang/String")) (by decide) (by decide)))).other W6 (Or.inr (slot_ne (Or.inl (w_48 hw)) (Or.inr (w_40 hw)) (by decide) (t := .int) (t' := .int) (by decide) (by decide)))).other W10 (Or.inr (slot_ne (Or.inl (w_48 hw)) (Or.inr (w_42 hw)) (by decide) (t := .int) (t' := .int) (by decide) (by decide)))).other W14 (Or.inr (slot_ne (Or.inl (w_48 hw)) (Or.inl (w_44 hw)) (by decide) (t := .int) (t' := .int) (by decide) (by decide)))).other W18 (Or.inr (slot_ne (Or.inl (w_48 hw)) (Or.inl (w_46 hw)) (by decide) (t := .int) (t' := .int) (by decide) (by decide))))
  have f21 := (f17.wr W18)
  obtain ⟨T22, h22, X22, e22, W22, st22⟩ := putF X18 hx hZ hown (host := "") (Or.inl (w_47 hw)) Via.refl e18 f20 f21 (Or.inl (w_48 hw)) (w_31 hw) (ty := .int) (by decide) rfl rfl (g := (mkF mM 32 #[.val (.ref a), .val (.ref x), .val (.int d), .val (.int f), .val (.int tt)] [(.int f), (.ref a)])) rfl rfl (hb hby d_prog_141_method_1_32)
  have K23 : Keep h0 h22 [a] := K19.wr W22 (Or.inl (List.mem_of_getElem? (i := 0) rfl))
  have Fw22 : Fld Z h22 a "com/example/resultwire/resultwire/er7/Pieces" "m_nEnd" "I" (.int f) := f20.same W22
  have N22 := Fr.snoc X22 N18 g_a
  have f25 := (f21.wr W22)
  have f26 := (((((Fw2.other W6 (Or.inr (slot_ne (Or.inr (w_38 hw)) (Or.inr (w_40 hw)) (by decide) (t := (.object "java/lang/String")) (t' := .int) (by decide) (by decide)))).other W10 (Or.inr (slot_ne (Or.inr (w_38 hw)) (Or.inr (w_42 hw)) (by decide) (t := (.object "java/lang/String")) (t' := .int) (by decide) (by decide)))).other W14 (Or.inr (slot_ne (Or.inr (w_38 hw)) (Or.inl (w_44 hw)) (by decide) (t := (.object "java/lang/String")) (t' := .int) (by decide) (by decide)))).other W18 (Or.inr (slot_ne (Or.inr (w_38 hw)) (Or.inl (w_46 hw)) (by decide) (t := (.object "java/lang/String")) (t' := .int) (by decide) (by decide)))).other W22 (Or.inr (slot_ne (Or.inr (w_38 hw)) (Or.inl (w_48 hw)) (by decide) (t := (.object "java/lang/String")) (t' := .int) (by decide) (by decide))))
  have f27 := ((((Fw6.other W10 (Or.inr (slot_ne (Or.inr (w_40 hw)) (Or.inr (w_42 hw)) (by decide) (t := .int) (t' := .int) (by decide) (by decide)))).other W14 (Or.inr (slot_ne (Or.inr (w_40 hw)) (Or.inl (w_44 hw)) (by decide) (t := .int) (t' := .int) (by decide) (by decide)))).other W18 (Or.inr (slot_ne (Or.inr (w_40 hw)) (Or.inl (w_46 hw)) (by decide) (t := .int) (t' := .int) (by decide) (by decide)))).other W22 (Or.inr (slot_ne (Or.inr (w_40 hw)) (Or.inl (w_48 hw)) (by decide) (t := .int) (t' := .int) (by decide) (by decide))))
  have f28 := (((Fw10.other W14 (Or.inr (slot_ne (Or.inr (w_42 hw)) (Or.inl (w_44 hw)) (by decide) (t := .int) (t' := .int) (by decide) (by decide)))).other W18 (Or.inr (slot_ne (Or.inr (w_42 hw)) (Or.inl (w_46 hw)) (by decide) (t := .int) (t' := .int) (by decide) (by decide)))).other W22 (Or.inr (slot_ne (Or.inr (w_42 hw)) (Or.inl (w_48 hw)) (by decide) (t := .int) (t' := .int) (by decide) (by decide))))
  have f29 := ((Fw14.other W18 (Or.inr (slot_ne (Or.inl (w_44 hw)) (Or.inl (w_46 hw)) (by decide) (t := .int) (t' := .int) (by decide) (by decide)))).other W22 (Or.inr (slot_ne (Or.inl (w_44 hw)) (Or.inl (w_48 hw)) (by decide) (t := .int) (t' := .int) (by decide) (by decide))))
  have f30 := (Fw18.other W22 (Or.inr (slot_ne (Or.inl (w_46 hw)) (Or.inl (w_48 hw)) (by decide) (t := .int) (t' := .int) (by decide) (by decide))))
  have f31 := ((((((F_a_m_nNumber.other W2 (Or.inr (slot_ne (Or.inl (w_74 hw)) (Or.inr (w_38 hw)) (by decide) (t := .int) (t' := (.object "java/lang/String")) (by decide) (by decide)))).other W6 (Or.inr (slot_ne (Or.inl (w_74 hw)) (Or.inr (w_40 hw)) (by decide) (t := .int) (t' := .int) (by decide) (by decide)))).other W10 (Or.inr (slot_ne (Or.inl (w_74 hw)) (Or.inr (w_42 hw)) (by decide) (t := .int) (t' := .int) (by decide) (by decide)))).other W14 (Or.inr (slot_ne (Or.inl (w_74 hw)) (Or.inl (w_44 hw)) (by decide) (t := .int) (t' := .int) (by decide) (by decide)))).other W18 (Or.inr (slot_ne (Or.inl (w_74 hw)) (Or.inl (w_46 hw)) (by decide) (t := .int) (t' := .int) (by decide) (by decide)))).other W22 (Or.inr (slot_ne (Or.inl (w_74 hw)) (Or.inl (w_48 hw)) (by decide) (t := .int) (t' := .int) (by decide) (by decide))))
  obtain ⟨fs, hr, hrun, hended, hW, hsame⟩ := X22.leave (v := none) (fun _ => rfl)
  refine ⟨_, _, pre0 _ ?_, hrun, hended, _, _, rfl, ?_, ⟨_, rfl⟩, hW, hsame.mono (by decide) (by decide)⟩
  · refine XS.aloadN X0.here hx rfl (hb hby d_prog_141_method_1_0) rfl rfl ?_
    show Steps pP.tables eE below (s₁.setTop (mkF mM 1 #[.val (.ref a), .val (.ref x), .val (.int d), .val (.int f), .val (.int tt)] [(.ref a)])) _
    refine st1 _ ?_
    show Steps pP.tables eE below (T1.setTop (mkF mM 4 #[.val (.ref a), .val (.ref x), .val (.int d), .val (.int f), .val (.int tt)] [])) _
    refine XS.aloadN X1.here hx rfl (hb hby d_prog_141_method_1_4) rfl rfl ?_
    show Steps pP.tables eE below (T1.setTop (mkF mM 5 #[.val (.ref a), .val (.ref x), .val (.int d), .val (.int f), .val (.int tt)] [(.ref a)])) _
    refine XS.aloadN X1.here hx rfl (hb hby d_prog_141_method_1_5) rfl rfl ?_
    show Steps pP.tables eE below (T1.setTop (mkF mM 6 #[.val (.ref a), .val (.ref x), .val (.int d), .val (.int f), .val (.int tt)] [(.ref x), (.ref a)])) _
    refine st2 _ ?_
    show Steps pP.tables eE below (T2.setTop (mkF mM 9 #[.val (.ref a), .val (.ref x), .val (.int d), .val (.int f), .val (.int tt)] [])) _
    refine XS.aloadN X2.here hx rfl (hb hby d_prog_141_method_1_9) rfl rfl ?_
    show Steps pP.tables eE below (T2.setTop (mkF mM 10 #[.val (.ref a), .val (.ref x), .val (.int d), .val (.int f), .val (.int tt)] [(.ref a)])) _
    refine XS.iloadN X2.here hx rfl (hb hby d_prog_141_method_1_10) rfl ?_
    show Steps pP.tables eE below (T2.setTop (mkF mM 11 #[.val (.ref a), .val (.ref x), .val (.int d), .val (.int f), .val (.int tt)] [(.int d), (.ref a)])) _
    refine st6 _ ?_
    show Steps pP.tables eE below (T6.setTop (mkF mM 14 #[.val (.ref a), .val (.ref x), .val (.int d), .val (.int f), .val (.int tt)] [])) _
    refine XS.aloadN X6.here hx rfl (hb hby d_prog_141_method_1_14) rfl rfl ?_
    show Steps pP.tables eE below (T6.setTop (mkF mM 15 #[.val (.ref a), .val (.ref x), .val (.int d), .val (.int f), .val (.int tt)] [(.ref a)])) _
    refine XS.iload X6.here hx rfl (hb hby d_prog_141_method_1_15) rfl ?_
    show Steps pP.tables eE below (T6.setTop (mkF mM 17 #[.val (.ref a), .val (.ref x), .val (.int d), .val (.int f), .val (.int tt)] [(.int tt), (.ref a)])) _
    refine st10 _ ?_
    show Steps pP.tables eE below (T10.setTop (mkF mM 20 #[.val (.ref a), .val (.ref x), .val (.int d), .val (.int f), .val (.int tt)] [])) _
    refine XS.aloadN X10.here hx rfl (hb hby d_prog_141_method_1_20) rfl rfl ?_
    show Steps pP.tables eE below (T10.setTop (mkF mM 21 #[.val (.ref a), .val (.ref x), .val (.int d), .val (.int f), .val (.int tt)] [(.ref a)])) _
    refine XS.iloadN X10.here hx rfl (hb hby d_prog_141_method_1_21) rfl ?_
    show Steps pP.tables eE below (T10.setTop (mkF mM 22 #[.val (.ref a), .val (.ref x), .val (.int d), .val (.int f), .val (.int tt)] [(.int f), (.ref a)])) _
    refine st14 _ ?_
    show Steps pP.tables eE below (T14.setTop (mkF mM 25 #[.val (.ref a), .val (.ref x), .val (.int d), .val (.int f), .val (.int tt)] [])) _
    refine XS.aloadN X14.here hx rfl (hb hby d_prog_141_method_1_25) rfl rfl ?_
    show Steps pP.tables eE below (T14.setTop (mkF mM 26 #[.val (.ref a), .val (.ref x), .val (.int d), .val (.int f), .val (.int tt)] [(.ref a)])) _
    refine XS.iloadN X14.here hx rfl (hb hby d_prog_141_method_1_26) rfl ?_
    show Steps pP.tables eE below (T14.setTop (mkF mM 27 #[.val (.ref a), .val (.ref x), .val (.int d), .val (.int f), .val (.int tt)] [(.int f), (.ref a)])) _
    refine st18 _ ?_
    show Steps pP.tables eE below (T18.setTop (mkF mM 30 #[.val (.ref a), .val (.ref x), .val (.int d), .val (.int f), .val (.int tt)] [])) _
    refine XS.aloadN X18.here hx rfl (hb hby d_prog_141_method_1_30) rfl rfl ?_
    show Steps pP.tables eE below (T18.setTop (mkF mM 31 #[.val (.ref a), .val (.ref x), .val (.int d), .val (.int f), .val (.int tt)] [(.ref a)])) _
    refine XS.iloadN X18.here hx rfl (hb hby d_prog_141_method_1_31) rfl ?_
    show Steps pP.tables eE below (T18.setTop (mkF mM 32 #[.val (.ref a), .val (.ref x), .val (.int d), .val (.int f), .val (.int tt)] [(.int f), (.ref a)])) _
    refine st22 _ ?_
    show Steps pP.tables eE below (T22.setTop (mkF mM 35 #[.val (.ref a), .val (.ref x), .val (.int d), .val (.int f), .val (.int tt)] [])) _
    exact X22.returnOut hx Bd.returns (hb hby d_prog_141_method_1_35) hr
  · show Q_pinit Z a x d f tt u1 u2 u3 u4 u5 u6 h0 n0 _ T22.heap _
    rw [e22]
    exact ⟨rfl, N22, K23, f25, f26, f27, f28, f29, Fw22, f30, f31⟩
theorem ef_hn (m : MethodId) (x0 : Addr) : entryFrame m #[(.ref x0)] 1 = mkF m 0 #[.val (.ref x0)] [] := by first | (simp [entryFrame, mkF, argsToLocals, Value.category]; done) | rfl
def Q_hn (Z : State) (a : Addr) (p : Int32) (q : Int32) (h0 : Heap) (n0 : Nat) (vV : Option Value) (h : Heap) (LL : List Loc) : Prop := vV = some (.int (own_hn p q)) ∧ LL = [] ∧ h = h0
set_option maxRecDepth 65536 in
set_option maxHeartbeats 40000000 in
theorem rm_hn (l : Launch) (Z : State) (a0 : Array Value) (hw : ∀ d ∈ tables_1, d.before a0 Z = true) (ws : List Jvm.Cond) (a : Addr) (p : Int32) (q : Int32) (h0 : Heap) (n0 : Nat) (O0 : Old Z n0 h0) (F_a_m_nFrom : Fld Z h0 a "com/example/resultwire/resultwire/er7/Pieces" "m_nFrom" "I" (.int p)) (F_a_m_nTo : Fld Z h0 a "com/example/resultwire/resultwire/er7/Pieces" "m_nTo" "I" (.int q)) :
    MetFree l (⟨"com/example/resultwire/resultwire/er7/Pieces", "hasNext", "()Z"⟩ : MethodName) (head1 (Jvm.Cond.code (⟨"com/example/resultwire/resultwire/er7/Pieces", "hasNext", "()Z"⟩ : MethodName) prog_141_method_9_code 1 (some .boolean) :: ws) ({ frames := 0, cells := 0, slots := 0, locals := 0 } : Room)) (fun aa_ U => aa_ = #[(.ref a)] ∧ Z.Warmed39 U.vm ∧ U.heap = h0) (fun _ _ _ _ _ => True) (fun _ U o U' => ∃ vV LL, o = .returned vV ∧ Q_hn Z a p q h0 n0 vV U'.heap LL ∧ FrameEnd U o U' LL ({ frames := 0, cells := 0, slots := 0, locals := 0 } : Room).cells ({ frames := 0, cells := 0, slots := 0, locals := 0 } : Room).slots) := by
  refine MetFree.of_bodySF (plainFor_of_name pn_2) hisR ?_
  intro pP eE sS mM args below meth cC s₁ Bd hml0 hP hK
  obtain ⟨rfl, hZ, hh⟩ := hP
  have hx := Bd.exec
  have hby := Bd.bytes
  have hml : cC.maxLocals = 1 := hml0
  have hown : sS.vm.findClass "com/example/resultwire/resultwire/er7/Pieces" = some mM.cls := findClass_of_methodNamed Bd.named
  have hnm := (name_of_methodNamed Bd.named Bd.method).1
  have X0 : Stand pP l eE ({ frames := 0, cells := 0, slots := 0, locals := 0 } : Room) sS mM #[(.ref a)] below meth cC s₁ [] 0 0 := Stand.of_body Bd
  have e0 : s₁.heap = h0 := by rw [← hh, Bd.state]; rfl
  have N0 := Fr.nil n0
  have pre0 : ∀ tg, Steps pP.tables eE below (s₁.setTop (mkF mM 0 #[.val (.ref a)] [])) tg → Steps pP.tables eE below (s₁.setTop (entryFrame mM #[(.ref a)] 1)) tg := fun tg kg => castTop (ef_hn mM a) kg
  obtain ⟨T1, X1, e1, st1⟩ := getF X0 hx hZ hown (host := "") (Or.inl (w_43 hw)) Via.refl e0 F_a_m_nFrom (g := (mkF mM 1 #[.val (.ref a)] [(.ref a)])) rfl rfl (hb hby d_prog_141_method_9_1)
  obtain ⟨T2, X2, e2, st2⟩ := getF X1 hx hZ hown (host := "") (Or.inl (w_41 hw)) Via.refl e1 F_a_m_nTo (g := (mkF mM 5 #[.val (.ref a)] [(.ref a), (.int p)])) rfl rfl (hb hby d_prog_141_method_9_5)
  have pre4 : ∀ tg, Steps pP.tables eE below (T2.setTop (mkF mM 8 #[.val (.ref a)] [(.int q), (.int p)])) tg → Steps pP.tables eE below (s₁.setTop (entryFrame mM #[(.ref a)] 1)) tg := fun tg kg => pre0 tg (by
    refine XS.aloadN X0.here hx rfl (hb hby d_prog_141_method_9_0) rfl rfl ?_
    show Steps pP.tables eE below (s₁.setTop (mkF mM 1 #[.val (.ref a)] [(.ref a)])) _
    refine st1 _ ?_
    show Steps pP.tables eE below (T1.setTop (mkF mM 4 #[.val (.ref a)] [(.int p)])) _
    refine XS.aloadN X1.here hx rfl (hb hby d_prog_141_method_9_4) rfl rfl ?_
    show Steps pP.tables eE below (T1.setTop (mkF mM 5 #[.val (.ref a)] [(.ref a), (.int p)])) _
    refine st2 _ ?_
    exact kg)
  by_cases hc3 : q < p
  · obtain ⟨fs, hr, hrun, hended, hW, hsame⟩ := X2.leave (v := some (.int (0 : Int32))) (fun h => by rw [Bd.returns] at h; cases h)
    refine ⟨_, _, pre4 _ ?_, hrun, hended, _, _, rfl, ?_, ⟨_, rfl⟩, hW, hsame.mono (by decide) (by decide)⟩
    · refine XS.icmpYes X2.here hx rfl (pc0 := 8) (pc' := 15) rfl (hb hby d_prog_141_method_9_8) rfl (tlt hc3).2.2.1 (by decide) (by decide) ?_
      show Steps pP.tables eE below (T2.setTop (mkF mM 15 #[.val (.ref a)] [])) _
      refine XS.iconst X2.here hx rfl (hb hby d_prog_141_method_9_15) ?_
      show Steps pP.tables eE below (T2.setTop (mkF mM 16 #[.val (.ref a)] [(.int (0 : Int32))])) _
      exact retN X2 hx (t := .boolean) Bd.returns (by simp) (hb hby d_prog_141_method_9_16) hr
    · show Q_hn Z a p q h0 n0 _ T2.heap _
      rw [e2]
      exact ⟨(by rw [own_hn, if_pos hc3]), rfl, rfl⟩
  · obtain ⟨fs, hr, hrun, hended, hW, hsame⟩ := X2.leave (v := some (.int (1 : Int32))) (fun h => by rw [Bd.returns] at h; cases h)
    refine ⟨_, _, pre4 _ ?_, hrun, hended, _, _, rfl, ?_, ⟨_, rfl⟩, hW, hsame.mono (by decide) (by decide)⟩
    · refine XS.icmpNo X2.here hx rfl (hb hby d_prog_141_method_9_8) rfl (flt hc3).2.2.1 ?_
      show Steps pP.tables eE below (T2.setTop (mkF mM 11 #[.val (.ref a)] [])) _
      refine XS.iconst X2.here hx rfl (hb hby d_prog_141_method_9_11) ?_
      show Steps pP.tables eE below (T2.setTop (mkF mM 12 #[.val (.ref a)] [(.int (1 : Int32))])) _
      refine XS.goto X2.here hx rfl (pc0 := 12) (pc' := 16) rfl (hb hby d_prog_141_method_9_12) (by decide) (by decide) ?_
      show Steps pP.tables eE below (T2.setTop (mkF mM 16 #[.val (.ref a)] [(.int (1 : Int32))])) _
      exact retN X2 hx (t := .boolean) Bd.returns (by simp) (hb hby d_prog_141_method_9_16) hr
    · show Q_hn Z a p q h0 n0 _ T2.heap _
      rw [e2]
      exact ⟨(by rw [own_hn, if_neg hc3]), rfl, rfl⟩
set_option maxRecDepth 65536 in
set_option maxHeartbeats 40000000 in
theorem lp_eo {pP : Program} {l : Launch} {eE : Env} {sS : State} {mM : MethodId} {args : Array Value} {below : List Frame} {meth : Method} {cC : Code} {locs : List Loc} {Z : State} {a0 : Array Value} (x : Addr) (t : Addr) (kk : ClassId) (cs : List Int32) (d : Int32) (f : Nat) (tt : Nat) (zc : Int32) (fm : Value) {h0 : Heap} {n0 : Nat} (hx : pP.tables.exec = Jvm.exec) (hZ : Z.Warmed39 sS.vm) (hw : ∀ d ∈ tables_1, d.before a0 Z = true) (hby : cC.code = prog_141_method_3_code) (hml : cC.maxLocals = 6) (hown : sS.vm.findClass "com/example/resultwire/resultwire/er7/Pieces" = some mM.cls) (O0 : Old Z n0 h0) (Str_x : own_Str Z h0 x t kk cs) (hp1 : tt ≤ cs.length) (S_COMPACT_STRINGS : Sta Z Z.heap "java/lang/String" "COMPACT_STRINGS" "Z" (.int zc)) (hp3 : ¬ (zc = (0 : Int32))) (S_SIOOBE_FORMATTER : Sta Z Z.heap "jdk/internal/util/Preconditions" "SIOOBE_FORMATTER" "Ljava/util/function/BiFunction;" fm) (hp5 : fm.isRef = true) :
    ∀ (k : Nat) (i : Nat) {T0 : State} (X0 : Stand pP l eE ({ frames := 4, cells := 0, slots := 0, locals := 60 } : Room) sS mM args below meth cC T0 locs 0 0) (e0 : T0.heap = h0) (hik : i + k = tt), own_To pP l eE ({ frames := 4, cells := 0, slots := 0, locals := 60 } : Room) sS mM args below meth cC locs 0 0 h0 T0 (mkF mM 42 #[.val (.ref x), .val (.int d), .val (.int (Int32.ofNat f)), .val (.int (Int32.ofNat tt)), .val (.int (Int32.ofNat tt)), .val (.int (Int32.ofNat i))] []) (mkF mM 64 #[.val (.ref x), .val (.int d), .val (.int (Int32.ofNat f)), .val (.int (Int32.ofNat tt)), .val (.int (Int32.ofNat tt)), .val (.int (Int32.ofNat (own_end cs d i k)))] []) := by
  have l4 := Str_x.2.2.2.2.1
  intro k
  induction k with
  | zero =>
    intro i T0 X0 e0 hik
    refine ⟨T0, X0, e0, fun tg kg => ?_⟩
    rw [show own_end cs d i 0 = i from rfl] at kg
    refine XS.iload X0.here hx rfl (hb hby d_prog_141_method_3_42) rfl ?_
    show Steps pP.tables eE below (T0.setTop (mkF mM 44 #[.val (.ref x), .val (.int d), .val (.int (Int32.ofNat f)), .val (.int (Int32.ofNat tt)), .val (.int (Int32.ofNat tt)), .val (.int (Int32.ofNat i))] [(.int (Int32.ofNat i))])) _
    refine XS.iloadN X0.here hx rfl (hb hby d_prog_141_method_3_44) rfl ?_
    show Steps pP.tables eE below (T0.setTop (mkF mM 45 #[.val (.ref x), .val (.int d), .val (.int (Int32.ofNat f)), .val (.int (Int32.ofNat tt)), .val (.int (Int32.ofNat tt)), .val (.int (Int32.ofNat i))] [(.int (Int32.ofNat tt)), (.int (Int32.ofNat i))])) _
    refine XS.icmpYes X0.here hx rfl (pc0 := 45) (pc' := 64) rfl (hb hby d_prog_141_method_3_45) rfl (flt (own_nlt (by omega) (by omega))).2.1 (by decide) (by decide) ?_
    exact kg
  | succ k ih =>
    intro i T0 X0 e0 hik
    obtain ⟨cq1, kq1, q1a, q1b, q1c⟩ := isOf hZ e0 (Str_x).1
    obtain ⟨_, _, ⟨T1, L1, k1, n1⟩, -, X1, ⟨Lc1, hQ1, l1, y1, z1⟩, st1⟩ := X0.virtualBack hx (y := (⟨"java/lang/String", "charAt", "(I)C"⟩ : MethodName)) (z := (⟨"java/lang/String", "charAt", "(I)C"⟩ : MethodName)) hown (mvT hZ (w_112 hw)) (mvT hZ (w_113 hw)) (notFace_of_selects (args := #[]) (mvT hZ (w_115 hw))) (mvT hZ (w_115 hw)) (mvT hZ (w_114 hw)) (by decide) (own_chr (W := 0) hZ hw (⟨(Str_x).1, (Str_x).2.1, (Str_x).2.2.1, (Str_x).2.2.2.1, (Str_x).2.2.2.2⟩ : own_Str Z h0 x t kk cs) (Sta.ext (O0).2 S_COMPACT_STRINGS) hp3 (Sta.ext (O0).2 S_SIOOBE_FORMATTER) hp5 (i := i) (by omega) rfl (by decide) (by decide)) q1a q1c (g := (mkF mM 51 #[.val (.ref x), .val (.int d), .val (.int (Int32.ofNat f)), .val (.int (Int32.ofNat tt)), .val (.int (Int32.ofNat tt)), .val (.int (Int32.ofNat i))] [(.int (Int32.ofNat i)), (.ref x)])) rfl (by rw [hml]; rfl) (Steps.refl _) (argsL := [(.int (Int32.ofNat i))]) (rest := []) (lenOf pd_5 rfl) rfl (by show 2 * 0 + _ ≤ _; exact Nat.le_of_eq rfl) (hb hby d_prog_141_method_3_51) (fun _ _ => ⟨rfl, e0, (by decide : 0 + 0 ≤ _), (by decide : 0 + 0 ≤ _)⟩)
    dsimp only [Pt.U, Pt.locs, Pt.cells, Pt.slots] at X1 l1 y1 z1 st1 hQ1
    subst l1 y1 z1
    obtain ⟨rfl, rfl, Kq1⟩ := hQ1
    try rw [List.append_nil] at X1
    have pre3 : ∀ tg, Steps pP.tables eE below (T1.setTop (mkF mM 55 #[.val (.ref x), .val (.int d), .val (.int (Int32.ofNat f)), .val (.int (Int32.ofNat tt)), .val (.int (Int32.ofNat tt)), .val (.int (Int32.ofNat i))] [(.int d), (.int ((cs).getD i 0))])) tg → Steps pP.tables eE below (T0.setTop (mkF mM 42 #[.val (.ref x), .val (.int d), .val (.int (Int32.ofNat f)), .val (.int (Int32.ofNat tt)), .val (.int (Int32.ofNat tt)), .val (.int (Int32.ofNat i))] [])) tg := fun tg kg => (by
      refine XS.iload X0.here hx rfl (hb hby d_prog_141_method_3_42) rfl ?_
      show Steps pP.tables eE below (T0.setTop (mkF mM 44 #[.val (.ref x), .val (.int d), .val (.int (Int32.ofNat f)), .val (.int (Int32.ofNat tt)), .val (.int (Int32.ofNat tt)), .val (.int (Int32.ofNat i))] [(.int (Int32.ofNat i))])) _
      refine XS.iloadN X0.here hx rfl (hb hby d_prog_141_method_3_44) rfl ?_
      show Steps pP.tables eE below (T0.setTop (mkF mM 45 #[.val (.ref x), .val (.int d), .val (.int (Int32.ofNat f)), .val (.int (Int32.ofNat tt)), .val (.int (Int32.ofNat tt)), .val (.int (Int32.ofNat i))] [(.int (Int32.ofNat tt)), (.int (Int32.ofNat i))])) _
      refine XS.icmpNo X0.here hx rfl (hb hby d_prog_141_method_3_45) rfl (tlt (own_lt (by omega) (by omega))).2.1 ?_
      show Steps pP.tables eE below (T0.setTop (mkF mM 48 #[.val (.ref x), .val (.int d), .val (.int (Int32.ofNat f)), .val (.int (Int32.ofNat tt)), .val (.int (Int32.ofNat tt)), .val (.int (Int32.ofNat i))] [])) _
      refine XS.aloadN X0.here hx rfl (hb hby d_prog_141_method_3_48) rfl rfl ?_
      show Steps pP.tables eE below (T0.setTop (mkF mM 49 #[.val (.ref x), .val (.int d), .val (.int (Int32.ofNat f)), .val (.int (Int32.ofNat tt)), .val (.int (Int32.ofNat tt)), .val (.int (Int32.ofNat i))] [(.ref x)])) _
      refine XS.iload X0.here hx rfl (hb hby d_prog_141_method_3_49) rfl ?_
      show Steps pP.tables eE below (T0.setTop (mkF mM 51 #[.val (.ref x), .val (.int d), .val (.int (Int32.ofNat f)), .val (.int (Int32.ofNat tt)), .val (.int (Int32.ofNat tt)), .val (.int (Int32.ofNat i))] [(.int (Int32.ofNat i)), (.ref x)])) _
      refine st1.trans ?_
      show Steps pP.tables eE below (T1.setTop (mkF mM 54 #[.val (.ref x), .val (.int d), .val (.int (Int32.ofNat f)), .val (.int (Int32.ofNat tt)), .val (.int (Int32.ofNat tt)), .val (.int (Int32.ofNat i))] [(.int ((cs).getD i 0))])) _
      refine XS.iloadN X1.here hx rfl (hb hby d_prog_141_method_3_54) rfl ?_
      exact kg)
    by_cases hc2 : ((cs).getD i 0) = d
    · refine ⟨T1, X1, Kq1, fun tg kg => ?_⟩
      rw [show own_end cs d i (k + 1) = i from if_pos hc2] at kg
      refine pre3 tg ?_
      refine XS.icmpYes X1.here hx rfl (pc0 := 55) (pc' := 64) rfl (hb hby d_prog_141_method_3_55) rfl (teq hc2).1 (by decide) (by decide) ?_
      exact kg
    · obtain ⟨T4, X4, e4, st4⟩ := ih (i + 1) X1 Kq1 (by omega)
      refine ⟨T4, X4, e4, fun tg kg => ?_⟩
      rw [show own_end cs d i (k + 1) = own_end cs d (i + 1) k from if_neg hc2] at kg
      refine pre3 tg ?_
      refine XS.icmpNo X1.here hx rfl (hb hby d_prog_141_method_3_55) rfl (feq hc2).1 ?_
      show Steps pP.tables eE below (T1.setTop (mkF mM 58 #[.val (.ref x), .val (.int d), .val (.int (Int32.ofNat f)), .val (.int (Int32.ofNat tt)), .val (.int (Int32.ofNat tt)), .val (.int (Int32.ofNat i))] [])) _
      refine XS.iinc X1.here hx rfl (hb hby d_prog_141_method_3_58) rfl (l' := #[.val (.ref x), .val (.int d), .val (.int (Int32.ofNat f)), .val (.int (Int32.ofNat tt)), .val (.int (Int32.ofNat tt)), .val (.int ((Int32.ofNat i) + (1 : Int32)))]) rfl ?_
      show Steps pP.tables eE below (T1.setTop (mkF mM 61 #[.val (.ref x), .val (.int d), .val (.int (Int32.ofNat f)), .val (.int (Int32.ofNat tt)), .val (.int (Int32.ofNat tt)), .val (.int ((Int32.ofNat i) + (1 : Int32)))] [])) _
      refine XS.goto X1.here hx rfl (pc0 := 61) (pc' := 42) rfl (hb hby d_prog_141_method_3_61) (by decide) (by decide) ?_
      show Steps pP.tables eE below (T1.setTop (mkF mM 42 #[.val (.ref x), .val (.int d), .val (.int (Int32.ofNat f)), .val (.int (Int32.ofNat tt)), .val (.int (Int32.ofNat tt)), .val (.int ((Int32.ofNat i) + (1 : Int32)))] [])) _
      rw [own_inc i]
      exact st4 tg kg
theorem ef_eo (m : MethodId) (x0 : Addr) (x1 : Int32) (x2 : Int32) (x3 : Int32) : entryFrame m #[(.ref x0), (.int x1), (.int x2), (.int x3)] 6 = mkF m 0 #[.val (.ref x0), .val (.int x1), .val (.int x2), .val (.int x3), .unset, .unset] [] := by first | (simp [entryFrame, mkF, argsToLocals, Value.category]; done) | rfl
def Q_eo (Z : State) (x : Addr) (t : Addr) (kk : ClassId) (cs : List Int32) (d : Int32) (f : Nat) (tt : Nat) (zc : Int32) (fm : Value) (h0 : Heap) (n0 : Nat) (vV : Option Value) (h : Heap) (LL : List Loc) : Prop := vV = some (.int (Int32.ofNat (own_endOf cs d f tt))) ∧ LL = [] ∧ h = h0
set_option maxRecDepth 65536 in
set_option maxHeartbeats 40000000 in
theorem rm_eo (l : Launch) (Z : State) (a0 : Array Value) (hw : ∀ d ∈ tables_1, d.before a0 Z = true) (ws : List Jvm.Cond) (x : Addr) (t : Addr) (kk : ClassId) (cs : List Int32) (d : Int32) (f : Nat) (tt : Nat) (zc : Int32) (fm : Value) (h0 : Heap) (n0 : Nat) (O0 : Old Z n0 h0) (Str_x : own_Str Z h0 x t kk cs) (hp1 : f ≤ tt) (hp2 : tt ≤ cs.length) (S_COMPACT_STRINGS : Sta Z Z.heap "java/lang/String" "COMPACT_STRINGS" "Z" (.int zc)) (hp4 : ¬ (zc = (0 : Int32))) (S_SIOOBE_FORMATTER : Sta Z Z.heap "jdk/internal/util/Preconditions" "SIOOBE_FORMATTER" "Ljava/util/function/BiFunction;" fm) (hp6 : fm.isRef = true) :
    MetFree l (⟨"com/example/resultwire/resultwire/er7/Pieces", "endOf", "(Ljava/lang/String;III)I"⟩ : MethodName) (head1 (Jvm.Cond.code (⟨"com/example/resultwire/resultwire/er7/Pieces", "endOf", "(Ljava/lang/String;III)I"⟩ : MethodName) prog_141_method_3_code 6 (some .int) :: ws) ({ frames := 4, cells := 0, slots := 0, locals := 60 } : Room)) (fun aa_ U => aa_ = #[(.ref x), (.int d), (.int (Int32.ofNat f)), (.int (Int32.ofNat tt))] ∧ Z.Warmed39 U.vm ∧ U.heap = h0) (fun _ _ _ _ _ => True) (fun _ U o U' => ∃ vV LL, o = .returned vV ∧ Q_eo Z x t kk cs d f tt zc fm h0 n0 vV U'.heap LL ∧ FrameEnd U o U' LL ({ frames := 4, cells := 0, slots := 0, locals := 60 } : Room).cells ({ frames := 4, cells := 0, slots := 0, locals := 60 } : Room).slots) := by
  refine MetFree.of_bodySF (plainFor_of_name pn_2) hisR ?_
  intro pP eE sS mM args below meth cC s₁ Bd hml0 hP hK
  obtain ⟨rfl, hZ, hh⟩ := hP
  have hx := Bd.exec
  have hby := Bd.bytes
  have hml : cC.maxLocals = 6 := hml0
  have hown : sS.vm.findClass "com/example/resultwire/resultwire/er7/Pieces" = some mM.cls := findClass_of_methodNamed Bd.named
  have hnm := (name_of_methodNamed Bd.named Bd.method).1
  have X0 : Stand pP l eE ({ frames := 4, cells := 0, slots := 0, locals := 60 } : Room) sS mM #[(.ref x), (.int d), (.int (Int32.ofNat f)), (.int (Int32.ofNat tt))] below meth cC s₁ [] 0 0 := Stand.of_body Bd
  have e0 : s₁.heap = h0 := by rw [← hh, Bd.state]; rfl
  have N0 := Fr.nil n0
  have pre0 : ∀ tg, Steps pP.tables eE below (s₁.setTop (mkF mM 0 #[.val (.ref x), .val (.int d), .val (.int (Int32.ofNat f)), .val (.int (Int32.ofNat tt)), .unset, .unset] [])) tg → Steps pP.tables eE below (s₁.setTop (entryFrame mM #[(.ref x), (.int d), (.int (Int32.ofNat f)), (.int (Int32.ofNat tt))] 6)) tg := fun tg kg => castTop (ef_eo mM x d (Int32.ofNat f) (Int32.ofNat tt)) kg
  have l4 := Str_x.2.2.2.2.1
  have pre2 : ∀ tg, Steps pP.tables eE below (s₁.setTop (mkF mM 5 #[.val (.ref x), .val (.int d), .val (.int (Int32.ofNat f)), .val (.int (Int32.ofNat tt)), .val (.int (Int32.ofNat tt)), .unset] [(.int (-1 : Int32)), (.int d)])) tg → Steps pP.tables eE below (s₁.setTop (entryFrame mM #[(.ref x), (.int d), (.int (Int32.ofNat f)), (.int (Int32.ofNat tt))] 6)) tg := fun tg kg => pre0 tg (by
    refine XS.iloadN X0.here hx rfl (hb hby d_prog_141_method_3_0) rfl ?_
    show Steps pP.tables eE below (s₁.setTop (mkF mM 1 #[.val (.ref x), .val (.int d), .val (.int (Int32.ofNat f)), .val (.int (Int32.ofNat tt)), .unset, .unset] [(.int (Int32.ofNat tt))])) _
    refine XS.istore X0.here hx rfl (hb hby d_prog_141_method_3_1) rfl (l' := #[.val (.ref x), .val (.int d), .val (.int (Int32.ofNat f)), .val (.int (Int32.ofNat tt)), .val (.int (Int32.ofNat tt)), .unset]) rfl ?_
    show Steps pP.tables eE below (s₁.setTop (mkF mM 3 #[.val (.ref x), .val (.int d), .val (.int (Int32.ofNat f)), .val (.int (Int32.ofNat tt)), .val (.int (Int32.ofNat tt)), .unset] [])) _
    refine XS.iloadN X0.here hx rfl (hb hby d_prog_141_method_3_3) rfl ?_
    show Steps pP.tables eE below (s₁.setTop (mkF mM 4 #[.val (.ref x), .val (.int d), .val (.int (Int32.ofNat f)), .val (.int (Int32.ofNat tt)), .val (.int (Int32.ofNat tt)), .unset] [(.int d)])) _
    refine XS.iconst X0.here hx rfl (hb hby d_prog_141_method_3_4) ?_
    exact kg)
  by_cases hc1 : d = (-1 : Int32)
  · obtain ⟨fs, hr, hrun, hended, hW, hsame⟩ := X0.leave (v := some (.int (Int32.ofNat tt))) (fun h => by rw [Bd.returns] at h; cases h)
    refine ⟨_, _, pre2 _ ?_, hrun, hended, _, _, rfl, ?_, ⟨_, rfl⟩, hW, hsame.mono (by decide) (by decide)⟩
    · refine XS.icmpNo X0.here hx rfl (hb hby d_prog_141_method_3_5) rfl (teq hc1).2 ?_
      show Steps pP.tables eE below (s₁.setTop (mkF mM 8 #[.val (.ref x), .val (.int d), .val (.int (Int32.ofNat f)), .val (.int (Int32.ofNat tt)), .val (.int (Int32.ofNat tt)), .unset] [])) _
      refine XS.goto X0.here hx rfl (pc0 := 8) (pc' := 68) rfl (hb hby d_prog_141_method_3_8) (by decide) (by decide) ?_
      show Steps pP.tables eE below (s₁.setTop (mkF mM 68 #[.val (.ref x), .val (.int d), .val (.int (Int32.ofNat f)), .val (.int (Int32.ofNat tt)), .val (.int (Int32.ofNat tt)), .unset] [])) _
      refine XS.iload X0.here hx rfl (hb hby d_prog_141_method_3_68) rfl ?_
      show Steps pP.tables eE below (s₁.setTop (mkF mM 70 #[.val (.ref x), .val (.int d), .val (.int (Int32.ofNat f)), .val (.int (Int32.ofNat tt)), .val (.int (Int32.ofNat tt)), .unset] [(.int (Int32.ofNat tt))])) _
      exact retI X0 hx Bd.returns (hb hby d_prog_141_method_3_70) hr
    · show Q_eo Z x t kk cs d f tt zc fm h0 n0 _ s₁.heap _
      rw [e0]
      exact ⟨(by rw [own_endOf, if_pos hc1]), rfl, rfl⟩
  · obtain ⟨cq4, kq4, q4a, q4b, q4c⟩ := isOf hZ e0 (Str_x).1
    obtain ⟨_, _, ⟨T4, L4, k4, n4⟩, -, X4, ⟨Lc4, hQ4, l4, y4, z4⟩, st4⟩ := X0.virtualBack hx (y := (⟨"java/lang/String", "length", "()I"⟩ : MethodName)) (z := (⟨"java/lang/String", "length", "()I"⟩ : MethodName)) hown (mvT hZ (w_63 hw)) (mvT hZ (w_64 hw)) (notFace_of_selects (args := #[]) (mvT hZ (w_66 hw))) (mvT hZ (w_66 hw)) (mvT hZ (w_65 hw)) (by decide) (own_len (W := 1) hZ hw (⟨(Str_x).1, (Str_x).2.1, (Str_x).2.2.1, (Str_x).2.2.2.1, (Str_x).2.2.2.2⟩ : own_Str Z h0 x t kk cs) (Sta.ext (O0).2 S_COMPACT_STRINGS) hp4 (by decide) (by decide)) q4a q4c (g := (mkF mM 13 #[.val (.ref x), .val (.int d), .val (.int (Int32.ofNat f)), .val (.int (Int32.ofNat tt)), .val (.int (Int32.ofNat tt)), .unset] [(.ref x), (.int (Int32.ofNat tt))])) rfl (by rw [hml]; rfl) (Steps.refl _) (argsL := []) (rest := [(.int (Int32.ofNat tt))]) (lenOf pd_4 rfl) rfl (by show 2 * 0 + _ ≤ _; exact Nat.le_of_eq rfl) (hb hby d_prog_141_method_3_13) (fun _ _ => ⟨rfl, e0, (by decide : 0 + 0 ≤ _), (by decide : 0 + 0 ≤ _)⟩)
    dsimp only [Pt.U, Pt.locs, Pt.cells, Pt.slots] at X4 l4 y4 z4 st4 hQ4
    subst l4 y4 z4
    obtain ⟨rfl, rfl, Kq4⟩ := hQ4
    try rw [List.append_nil] at X4
    have pre6 : ∀ tg, Steps pP.tables eE below (T4.setTop (mkF mM 16 #[.val (.ref x), .val (.int d), .val (.int (Int32.ofNat f)), .val (.int (Int32.ofNat tt)), .val (.int (Int32.ofNat tt)), .unset] [(.int (Int32.ofNat (cs).length)), (.int (Int32.ofNat tt))])) tg → Steps pP.tables eE below (s₁.setTop (entryFrame mM #[(.ref x), (.int d), (.int (Int32.ofNat f)), (.int (Int32.ofNat tt))] 6)) tg := fun tg kg => pre2 tg (by
      refine XS.icmpYes X0.here hx rfl (pc0 := 5) (pc' := 11) rfl (hb hby d_prog_141_method_3_5) rfl (feq hc1).2 (by decide) (by decide) ?_
      show Steps pP.tables eE below (s₁.setTop (mkF mM 11 #[.val (.ref x), .val (.int d), .val (.int (Int32.ofNat f)), .val (.int (Int32.ofNat tt)), .val (.int (Int32.ofNat tt)), .unset] [])) _
      refine XS.iloadN X0.here hx rfl (hb hby d_prog_141_method_3_11) rfl ?_
      show Steps pP.tables eE below (s₁.setTop (mkF mM 12 #[.val (.ref x), .val (.int d), .val (.int (Int32.ofNat f)), .val (.int (Int32.ofNat tt)), .val (.int (Int32.ofNat tt)), .unset] [(.int (Int32.ofNat tt))])) _
      refine XS.aloadN X0.here hx rfl (hb hby d_prog_141_method_3_12) rfl rfl ?_
      show Steps pP.tables eE below (s₁.setTop (mkF mM 13 #[.val (.ref x), .val (.int d), .val (.int (Int32.ofNat f)), .val (.int (Int32.ofNat tt)), .val (.int (Int32.ofNat tt)), .unset] [(.ref x), (.int (Int32.ofNat tt))])) _
      refine st4.trans ?_
      exact kg)
    by_cases hc5 : (Int32.ofNat tt) = (Int32.ofNat (cs).length)
    · obtain ⟨cq7, kq7, q7a, q7b, q7c⟩ := isOf hZ Kq4 (Str_x).1
      obtain ⟨_, _, ⟨T7, L7, k7, n7⟩, -, X7, ⟨Lc7, hQ7, l7, y7, z7⟩, st7⟩ := X4.virtualBack hx (y := (⟨"java/lang/String", "indexOf", "(II)I"⟩ : MethodName)) (z := (⟨"java/lang/String", "indexOf", "(II)I"⟩ : MethodName)) hown (mvT hZ (w_84 hw)) (mvT hZ (w_85 hw)) (notFace_of_selects (args := #[]) (mvT hZ (w_87 hw))) (mvT hZ (w_87 hw)) (mvT hZ (w_86 hw)) (by decide) (backOf (W := 0) (rm_io l Z a0 hw [] x t kk cs d f zc fm h0 n0 O0 (⟨(Str_x).1, (Str_x).2.1, (Str_x).2.2.1, (Str_x).2.2.2.1, (Str_x).2.2.2.2⟩ : own_Str Z h0 x t kk cs) (by omega : f ≤ cs.length) S_COMPACT_STRINGS hp4 S_SIOOBE_FORMATTER hp6) hZ (w_88 hw) (w_3 hw) (by decide) (by decide)) q7a q7c (g := (mkF mM 22 #[.val (.ref x), .val (.int d), .val (.int (Int32.ofNat f)), .val (.int (Int32.ofNat tt)), .val (.int (Int32.ofNat tt)), .unset] [(.int (Int32.ofNat f)), (.int d), (.ref x)])) rfl (by rw [hml]; rfl) (Steps.refl _) (argsL := [(.int d), (.int (Int32.ofNat f))]) (rest := []) (lenOf pd_1 rfl) rfl (by show 2 * 0 + _ ≤ _; exact Nat.le_of_eq rfl) (hb hby d_prog_141_method_3_22) (fun _ _ => ⟨rfl, Kq4, (by decide : 0 + 0 ≤ _), (by decide : 0 + 0 ≤ _)⟩)
      dsimp only [Pt.U, Pt.locs, Pt.cells, Pt.slots] at X7 l7 y7 z7 st7 hQ7
      subst l7 y7 z7
      obtain ⟨rfl, rfl, Kq7⟩ := hQ7
      try rw [List.append_nil] at X7
      have pre9 : ∀ tg, Steps pP.tables eE below (T7.setTop (mkF mM 29 #[.val (.ref x), .val (.int d), .val (.int (Int32.ofNat f)), .val (.int (Int32.ofNat tt)), .val (.int (Int32.ofNat tt)), .val (.int (own_ixk cs d f (cs.length - f)))] [(.int (own_ixk cs d f (cs.length - f)))])) tg → Steps pP.tables eE below (s₁.setTop (entryFrame mM #[(.ref x), (.int d), (.int (Int32.ofNat f)), (.int (Int32.ofNat tt))] 6)) tg := fun tg kg => pre6 tg (by
        refine XS.icmpNo X4.here hx rfl (hb hby d_prog_141_method_3_16) rfl (teq hc5).2 ?_
        show Steps pP.tables eE below (T4.setTop (mkF mM 19 #[.val (.ref x), .val (.int d), .val (.int (Int32.ofNat f)), .val (.int (Int32.ofNat tt)), .val (.int (Int32.ofNat tt)), .unset] [])) _
        refine XS.aloadN X4.here hx rfl (hb hby d_prog_141_method_3_19) rfl rfl ?_
        show Steps pP.tables eE below (T4.setTop (mkF mM 20 #[.val (.ref x), .val (.int d), .val (.int (Int32.ofNat f)), .val (.int (Int32.ofNat tt)), .val (.int (Int32.ofNat tt)), .unset] [(.ref x)])) _
        refine XS.iloadN X4.here hx rfl (hb hby d_prog_141_method_3_20) rfl ?_
        show Steps pP.tables eE below (T4.setTop (mkF mM 21 #[.val (.ref x), .val (.int d), .val (.int (Int32.ofNat f)), .val (.int (Int32.ofNat tt)), .val (.int (Int32.ofNat tt)), .unset] [(.int d), (.ref x)])) _
        refine XS.iloadN X4.here hx rfl (hb hby d_prog_141_method_3_21) rfl ?_
        show Steps pP.tables eE below (T4.setTop (mkF mM 22 #[.val (.ref x), .val (.int d), .val (.int (Int32.ofNat f)), .val (.int (Int32.ofNat tt)), .val (.int (Int32.ofNat tt)), .unset] [(.int (Int32.ofNat f)), (.int d), (.ref x)])) _
        refine st7.trans ?_
        show Steps pP.tables eE below (T7.setTop (mkF mM 25 #[.val (.ref x), .val (.int d), .val (.int (Int32.ofNat f)), .val (.int (Int32.ofNat tt)), .val (.int (Int32.ofNat tt)), .unset] [(.int (own_ixk cs d f (cs.length - f)))])) _
        refine XS.istore X7.here hx rfl (hb hby d_prog_141_method_3_25) rfl (l' := #[.val (.ref x), .val (.int d), .val (.int (Int32.ofNat f)), .val (.int (Int32.ofNat tt)), .val (.int (Int32.ofNat tt)), .val (.int (own_ixk cs d f (cs.length - f)))]) rfl ?_
        show Steps pP.tables eE below (T7.setTop (mkF mM 27 #[.val (.ref x), .val (.int d), .val (.int (Int32.ofNat f)), .val (.int (Int32.ofNat tt)), .val (.int (Int32.ofNat tt)), .val (.int (own_ixk cs d f (cs.length - f)))] [])) _
        refine XS.iload X7.here hx rfl (hb hby d_prog_141_method_3_27) rfl ?_
        exact kg)
      by_cases hc8 : (own_ixk cs d f (cs.length - f)) < (0 : Int32)
      · obtain ⟨fs, hr, hrun, hended, hW, hsame⟩ := X7.leave (v := some (.int (Int32.ofNat tt))) (fun h => by rw [Bd.returns] at h; cases h)
        refine ⟨_, _, pre9 _ ?_, hrun, hended, _, _, rfl, ?_, ⟨_, rfl⟩, hW, hsame.mono (by decide) (by decide)⟩
        · refine XS.ifYes X7.here hx rfl (pc0 := 29) (pc' := 36) rfl (hb hby d_prog_141_method_3_29) rfl ((if0 _ _).trans (tlt hc8).1) (by decide) (by decide) ?_
          show Steps pP.tables eE below (T7.setTop (mkF mM 36 #[.val (.ref x), .val (.int d), .val (.int (Int32.ofNat f)), .val (.int (Int32.ofNat tt)), .val (.int (Int32.ofNat tt)), .val (.int (own_ixk cs d f (cs.length - f)))] [])) _
          refine XS.goto X7.here hx rfl (pc0 := 36) (pc' := 68) rfl (hb hby d_prog_141_method_3_36) (by decide) (by decide) ?_
          show Steps pP.tables eE below (T7.setTop (mkF mM 68 #[.val (.ref x), .val (.int d), .val (.int (Int32.ofNat f)), .val (.int (Int32.ofNat tt)), .val (.int (Int32.ofNat tt)), .val (.int (own_ixk cs d f (cs.length - f)))] [])) _
          refine XS.iload X7.here hx rfl (hb hby d_prog_141_method_3_68) rfl ?_
          show Steps pP.tables eE below (T7.setTop (mkF mM 70 #[.val (.ref x), .val (.int d), .val (.int (Int32.ofNat f)), .val (.int (Int32.ofNat tt)), .val (.int (Int32.ofNat tt)), .val (.int (own_ixk cs d f (cs.length - f)))] [(.int (Int32.ofNat tt))])) _
          exact retI X7 hx Bd.returns (hb hby d_prog_141_method_3_70) hr
        · show Q_eo Z x t kk cs d f tt zc fm h0 n0 _ T7.heap _
          rw [Kq7]
          exact ⟨(by have e2 := own_inj hc5 (by omega) (by omega); have q := own_ixk_neg (by omega) hc8; rw [own_endOf, if_neg hc1, e2, q, show f + (cs.length - f) = cs.length by omega]), rfl, rfl⟩
      · obtain ⟨fs, hr, hrun, hended, hW, hsame⟩ := X7.leave (v := some (.int (own_ixk cs d f (cs.length - f)))) (fun h => by rw [Bd.returns] at h; cases h)
        refine ⟨_, _, pre9 _ ?_, hrun, hended, _, _, rfl, ?_, ⟨_, rfl⟩, hW, hsame.mono (by decide) (by decide)⟩
        · refine XS.ifNo X7.here hx rfl (hb hby d_prog_141_method_3_29) rfl ((if0 _ _).trans (flt hc8).1) ?_
          show Steps pP.tables eE below (T7.setTop (mkF mM 32 #[.val (.ref x), .val (.int d), .val (.int (Int32.ofNat f)), .val (.int (Int32.ofNat tt)), .val (.int (Int32.ofNat tt)), .val (.int (own_ixk cs d f (cs.length - f)))] [])) _
          refine XS.iload X7.here hx rfl (hb hby d_prog_141_method_3_32) rfl ?_
          show Steps pP.tables eE below (T7.setTop (mkF mM 34 #[.val (.ref x), .val (.int d), .val (.int (Int32.ofNat f)), .val (.int (Int32.ofNat tt)), .val (.int (Int32.ofNat tt)), .val (.int (own_ixk cs d f (cs.length - f)))] [(.int (own_ixk cs d f (cs.length - f)))])) _
          refine XS.istore X7.here hx rfl (hb hby d_prog_141_method_3_34) rfl (l' := #[.val (.ref x), .val (.int d), .val (.int (Int32.ofNat f)), .val (.int (Int32.ofNat tt)), .val (.int (own_ixk cs d f (cs.length - f))), .val (.int (own_ixk cs d f (cs.length - f)))]) rfl ?_
          show Steps pP.tables eE below (T7.setTop (mkF mM 36 #[.val (.ref x), .val (.int d), .val (.int (Int32.ofNat f)), .val (.int (Int32.ofNat tt)), .val (.int (own_ixk cs d f (cs.length - f))), .val (.int (own_ixk cs d f (cs.length - f)))] [])) _
          refine XS.goto X7.here hx rfl (pc0 := 36) (pc' := 68) rfl (hb hby d_prog_141_method_3_36) (by decide) (by decide) ?_
          show Steps pP.tables eE below (T7.setTop (mkF mM 68 #[.val (.ref x), .val (.int d), .val (.int (Int32.ofNat f)), .val (.int (Int32.ofNat tt)), .val (.int (own_ixk cs d f (cs.length - f))), .val (.int (own_ixk cs d f (cs.length - f)))] [])) _
          refine XS.iload X7.here hx rfl (hb hby d_prog_141_method_3_68) rfl ?_
          show Steps pP.tables eE below (T7.setTop (mkF mM 70 #[.val (.ref x), .val (.int d), .val (.int (Int32.ofNat f)), .val (.int (Int32.ofNat tt)), .val (.int (own_ixk cs d f (cs.length - f))), .val (.int (own_ixk cs d f (cs.length - f)))] [(.int (own_ixk cs d f (cs.length - f)))])) _
          exact retI X7 hx Bd.returns (hb hby d_prog_141_method_3_70) hr
        · show Q_eo Z x t kk cs d f tt zc fm h0 n0 _ T7.heap _
          rw [Kq7]
          exact ⟨(by have e2 := own_inj hc5 (by omega) (by omega); have q := own_ixk_pos hc8; rw [own_endOf, if_neg hc1, e2, q]), rfl, rfl⟩
    · obtain ⟨T12, X12, e12, st12⟩ := lp_eo x t kk cs d f tt zc fm hx hZ hw hby hml hown O0 (⟨(Str_x).1, (Str_x).2.1, (Str_x).2.2.1, (Str_x).2.2.2.1, (Str_x).2.2.2.2⟩ : own_Str Z h0 x t kk cs) hp2 S_COMPACT_STRINGS hp4 S_SIOOBE_FORMATTER hp6 (tt - f) (f) X4 Kq4 (by omega)
      obtain ⟨fs, hr, hrun, hended, hW, hsame⟩ := X12.leave (v := some (.int (Int32.ofNat (own_end cs d f (tt - f))))) (fun h => by rw [Bd.returns] at h; cases h)
      refine ⟨_, _, pre6 _ ?_, hrun, hended, _, _, rfl, ?_, ⟨_, rfl⟩, hW, hsame.mono (by decide) (by decide)⟩
      · refine XS.icmpYes X4.here hx rfl (pc0 := 16) (pc' := 39) rfl (hb hby d_prog_141_method_3_16) rfl (feq hc5).2 (by decide) (by decide) ?_
        show Steps pP.tables eE below (T4.setTop (mkF mM 39 #[.val (.ref x), .val (.int d), .val (.int (Int32.ofNat f)), .val (.int (Int32.ofNat tt)), .val (.int (Int32.ofNat tt)), .unset] [])) _
        refine XS.iloadN X4.here hx rfl (hb hby d_prog_141_method_3_39) rfl ?_
        show Steps pP.tables eE below (T4.setTop (mkF mM 40 #[.val (.ref x), .val (.int d), .val (.int (Int32.ofNat f)), .val (.int (Int32.ofNat tt)), .val (.int (Int32.ofNat tt)), .unset] [(.int (Int32.ofNat f))])) _
        refine XS.istore X4.here hx rfl (hb hby d_prog_141_method_3_40) rfl (l' := #[.val (.ref x), .val (.int d), .val (.int (Int32.ofNat f)), .val (.int (Int32.ofNat tt)), .val (.int (Int32.ofNat tt)), .val (.int (Int32.ofNat f))]) rfl ?_
        show Steps pP.tables eE below (T4.setTop (mkF mM 42 #[.val (.ref x), .val (.int d), .val (.int (Int32.ofNat f)), .val (.int (Int32.ofNat tt)), .val (.int (Int32.ofNat tt)), .val (.int (Int32.ofNat f))] [])) _
        refine st12 _ ?_
        show Steps pP.tables eE below (T12.setTop (mkF mM 64 #[.val (.ref x), .val (.int d), .val (.int (Int32.ofNat f)), .val (.int (Int32.ofNat tt)), .val (.int (Int32.ofNat tt)), .val (.int (Int32.ofNat (own_end cs d f (tt - f))))] [])) _
        refine XS.iload X12.here hx rfl (hb hby d_prog_141_method_3_64) rfl ?_
        show Steps pP.tables eE below (T12.setTop (mkF mM 66 #[.val (.ref x), .val (.int d), .val (.int (Int32.ofNat f)), .val (.int (Int32.ofNat tt)), .val (.int (Int32.ofNat tt)), .val (.int (Int32.ofNat (own_end cs d f (tt - f))))] [(.int (Int32.ofNat (own_end cs d f (tt - f))))])) _
        refine XS.istore X12.here hx rfl (hb hby d_prog_141_method_3_66) rfl (l' := #[.val (.ref x), .val (.int d), .val (.int (Int32.ofNat f)), .val (.int (Int32.ofNat tt)), .val (.int (Int32.ofNat (own_end cs d f (tt - f)))), .val (.int (Int32.ofNat (own_end cs d f (tt - f))))]) rfl ?_
        show Steps pP.tables eE below (T12.setTop (mkF mM 68 #[.val (.ref x), .val (.int d), .val (.int (Int32.ofNat f)), .val (.int (Int32.ofNat tt)), .val (.int (Int32.ofNat (own_end cs d f (tt - f)))), .val (.int (Int32.ofNat (own_end cs d f (tt - f))))] [])) _
        refine XS.iload X12.here hx rfl (hb hby d_prog_141_method_3_68) rfl ?_
        show Steps pP.tables eE below (T12.setTop (mkF mM 70 #[.val (.ref x), .val (.int d), .val (.int (Int32.ofNat f)), .val (.int (Int32.ofNat tt)), .val (.int (Int32.ofNat (own_end cs d f (tt - f)))), .val (.int (Int32.ofNat (own_end cs d f (tt - f))))] [(.int (Int32.ofNat (own_end cs d f (tt - f))))])) _
        exact retI X12 hx Bd.returns (hb hby d_prog_141_method_3_70) hr
      · show Q_eo Z x t kk cs d f tt zc fm h0 n0 _ T12.heap _
        rw [e12]
        exact ⟨(by rw [own_endOf, if_neg hc1]), rfl, rfl⟩
theorem ef_adv (m : MethodId) (x0 : Addr) : entryFrame m #[(.ref x0)] 1 = mkF m 0 #[.val (.ref x0)] [] := by first | (simp [entryFrame, mkF, argsToLocals, Value.category]; done) | rfl
def Q_adv (Z : State) (a : Addr) (x : Addr) (t : Addr) (kk : ClassId) (cs : List Int32) (d : Int32) (f : Nat) (tt : Nat) (zc : Int32) (fm : Value) (u : Int32) (v1 : Value) (v2 : Value) (h0 : Heap) (n0 : Nat) (vV : Option Value) (h : Heap) (LL : List Loc) : Prop := vV = none ∧ Fr n0 LL ∧ Keep h0 h [a] ∧ Exa Z h a "com/example/resultwire/resultwire/er7/Pieces" ∧ Fld Z h a "com/example/resultwire/resultwire/er7/Pieces" "m_sText" "Ljava/lang/String;" (.ref x) ∧ Fld Z h a "com/example/resultwire/resultwire/er7/Pieces" "m_nDelimiter" "I" (.int d) ∧ Fld Z h a "com/example/resultwire/resultwire/er7/Pieces" "m_nTo" "I" (.int (Int32.ofNat tt)) ∧ Fld Z h a "com/example/resultwire/resultwire/er7/Pieces" "m_nFrom" "I" (.int (Int32.ofNat (own_endOf cs d f tt + 1))) ∧ Fld Z h a "com/example/resultwire/resultwire/er7/Pieces" "m_nStart" "I" (.int (Int32.ofNat f)) ∧ Fld Z h a "com/example/resultwire/resultwire/er7/Pieces" "m_nEnd" "I" (.int (Int32.ofNat (own_endOf cs d f tt))) ∧ Fld Z h a "com/example/resultwire/resultwire/er7/Pieces" "m_nNumber" "I" (.int (u + (1 : Int32)))
set_option maxRecDepth 65536 in
set_option maxHeartbeats 40000000 in
theorem rm_adv (l : Launch) (Z : State) (a0 : Array Value) (hw : ∀ d ∈ tables_1, d.before a0 Z = true) (ws : List Jvm.Cond) (a : Addr) (x : Addr) (t : Addr) (kk : ClassId) (cs : List Int32) (d : Int32) (f : Nat) (tt : Nat) (zc : Int32) (fm : Value) (u : Int32) (v1 : Value) (v2 : Value) (h0 : Heap) (n0 : Nat) (O0 : Old Z n0 h0) (E_a : Exa Z h0 a "com/example/resultwire/resultwire/er7/Pieces") (F_a_m_sText : Fld Z h0 a "com/example/resultwire/resultwire/er7/Pieces" "m_sText" "Ljava/lang/String;" (.ref x)) (F_a_m_nDelimiter : Fld Z h0 a "com/example/resultwire/resultwire/er7/Pieces" "m_nDelimiter" "I" (.int d)) (F_a_m_nTo : Fld Z h0 a "com/example/resultwire/resultwire/er7/Pieces" "m_nTo" "I" (.int (Int32.ofNat tt))) (F_a_m_nFrom : Fld Z h0 a "com/example/resultwire/resultwire/er7/Pieces" "m_nFrom" "I" (.int (Int32.ofNat f))) (F_a_m_nStart : Fld Z h0 a "com/example/resultwire/resultwire/er7/Pieces" "m_nStart" "I" v1) (F_a_m_nEnd : Fld Z h0 a "com/example/resultwire/resultwire/er7/Pieces" "m_nEnd" "I" v2) (F_a_m_nNumber : Fld Z h0 a "com/example/resultwire/resultwire/er7/Pieces" "m_nNumber" "I" (.int u)) (g_a : n0 ≤ a) (Str_x : own_Str Z h0 x t kk cs) (hp10 : f ≤ tt) (hp11 : tt ≤ cs.length) (ne12 : x ≠ a) (ne13 : t ≠ a) (S_COMPACT_STRINGS : Sta Z Z.heap "java/lang/String" "COMPACT_STRINGS" "Z" (.int zc)) (hp15 : ¬ (zc = (0 : Int32))) (S_SIOOBE_FORMATTER : Sta Z Z.heap "jdk/internal/util/Preconditions" "SIOOBE_FORMATTER" "Ljava/util/function/BiFunction;" fm) (hp17 : fm.isRef = true) :
    MetFree l (⟨"com/example/resultwire/resultwire/er7/Pieces", "advance", "()V"⟩ : MethodName) (head1 (Jvm.Cond.code (⟨"com/example/resultwire/resultwire/er7/Pieces", "advance", "()V"⟩ : MethodName) prog_141_method_8_code 1 none :: ws) ({ frames := 5, cells := 0, slots := 0, locals := 78 } : Room)) (fun aa_ U => aa_ = #[(.ref a)] ∧ Z.Warmed39 U.vm ∧ U.heap = h0) (fun _ _ _ _ _ => True) (fun _ U o U' => ∃ vV LL, o = .returned vV ∧ Q_adv Z a x t kk cs d f tt zc fm u v1 v2 h0 n0 vV U'.heap LL ∧ FrameEnd U o U' LL ({ frames := 5, cells := 0, slots := 0, locals := 78 } : Room).cells ({ frames := 5, cells := 0, slots := 0, locals := 78 } : Room).slots) := by
  refine MetFree.of_bodySF (plainFor_of_name pn_2) hisR ?_
  intro pP eE sS mM args below meth cC s₁ Bd hml0 hP hK
  obtain ⟨rfl, hZ, hh⟩ := hP
  have hx := Bd.exec
  have hby := Bd.bytes
  have hml : cC.maxLocals = 1 := hml0
  have hown : sS.vm.findClass "com/example/resultwire/resultwire/er7/Pieces" = some mM.cls := findClass_of_methodNamed Bd.named
  have hnm := (name_of_methodNamed Bd.named Bd.method).1
  have X0 : Stand pP l eE ({ frames := 5, cells := 0, slots := 0, locals := 78 } : Room) sS mM #[(.ref a)] below meth cC s₁ [] 0 0 := Stand.of_body Bd
  have e0 : s₁.heap = h0 := by rw [← hh, Bd.state]; rfl
  have N0 := Fr.nil n0
  have pre0 : ∀ tg, Steps pP.tables eE below (s₁.setTop (mkF mM 0 #[.val (.ref a)] [])) tg → Steps pP.tables eE below (s₁.setTop (entryFrame mM #[(.ref a)] 1)) tg := fun tg kg => castTop (ef_adv mM a) kg
  have K0 : Keep h0 h0 [a] := Keep.refl _ _
  obtain ⟨cq1, kq1, q1a, q1b, q1c⟩ := isOf hZ e0 E_a
  obtain ⟨_, _, ⟨T1, L1, k1, n1⟩, -, X1, ⟨Lc1, hQ1, l1, y1, z1⟩, st1⟩ := X0.virtualBack hx (y := (⟨"com/example/resultwire/resultwire/er7/Pieces", "hasNext", "()Z"⟩ : MethodName)) (z := (⟨"com/example/resultwire/resultwire/er7/Pieces", "hasNext", "()Z"⟩ : MethodName)) hown (mvT hZ (w_59 hw)) (mvT hZ (w_50 hw)) (notFace_of_selects (args := #[]) (mvT hZ (w_52 hw))) (mvT hZ (w_52 hw)) (mvT hZ (w_51 hw)) (by decide) (backOf (W := 0) (rm_hn l Z a0 hw [] a (Int32.ofNat f) (Int32.ofNat tt) h0 n0 O0 F_a_m_nFrom F_a_m_nTo) hZ (w_53 hw) (w_32 hw) (by decide) (by decide)) q1a q1c (g := (mkF mM 1 #[.val (.ref a)] [(.ref a)])) rfl (by rw [hml]; rfl) (Steps.refl _) (argsL := []) (rest := []) (lenOf pd_3 rfl) rfl (by show 2 * 0 + _ ≤ _; exact Nat.le_of_eq rfl) (hb hby d_prog_141_method_8_1) (fun _ _ => ⟨rfl, e0, (by decide : 0 + 0 ≤ _), (by decide : 0 + 0 ≤ _)⟩)
  dsimp only [Pt.U, Pt.locs, Pt.cells, Pt.slots] at X1 l1 y1 z1 st1 hQ1
  subst l1 y1 z1
  obtain ⟨rfl, rfl, Kq1⟩ := hQ1
  try rw [List.append_nil] at X1
  obtain ⟨T2, X2, e2, st2⟩ := getF X1 hx hZ hown (host := "") (Or.inl (w_43 hw)) Via.refl Kq1 F_a_m_nFrom (g := (mkF mM 17 #[.val (.ref a)] [(.ref a), (.ref a)])) rfl rfl (hb hby d_prog_141_method_8_17)
  obtain ⟨T3, h3, X3, e3, W3, st3⟩ := putF X2 hx hZ hown (host := "") (Or.inl (w_45 hw)) Via.refl e2 F_a_m_nStart E_a (Or.inl (w_46 hw)) (w_31 hw) (ty := .int) (by decide) rfl rfl (g := (mkF mM 20 #[.val (.ref a)] [(.int (Int32.ofNat f)), (.ref a)])) rfl rfl (hb hby d_prog_141_method_8_20)
  have K4 : Keep h0 h3 [a] := K0.wr W3 (Or.inl (List.mem_of_getElem? (i := 0) rfl))
  have Fw3 : Fld Z h3 a "com/example/resultwire/resultwire/er7/Pieces" "m_nStart" "I" (.int (Int32.ofNat f)) := F_a_m_nStart.same W3
  have N3 := Fr.snoc X3 N0 g_a
  have f5 := (F_a_m_sText.other W3 (Or.inr (slot_ne (Or.inr (w_38 hw)) (Or.inl (w_46 hw)) (by decide) (t := (.object "java/lang/String")) (t' := .int) (by decide) (by decide))))
  obtain ⟨T6, X6, e6, st6⟩ := getF X3 hx hZ hown (host := "") (Or.inl (w_37 hw)) Via.refl e3 f5 (g := (mkF mM 25 #[.val (.ref a)] [(.ref a), (.ref a)])) rfl rfl (hb hby d_prog_141_method_8_25)
  have f7 := (F_a_m_nDelimiter.other W3 (Or.inr (slot_ne (Or.inr (w_40 hw)) (Or.inl (w_46 hw)) (by decide) (t := .int) (t' := .int) (by decide) (by decide))))
  obtain ⟨T8, X8, e8, st8⟩ := getF X6 hx hZ hown (host := "") (Or.inl (w_39 hw)) Via.refl e6 f7 (g := (mkF mM 29 #[.val (.ref a)] [(.ref a), (.ref x), (.ref a)])) rfl rfl (hb hby d_prog_141_method_8_29)
  have f9 := (F_a_m_nFrom.other W3 (Or.inr (slot_ne (Or.inl (w_44 hw)) (Or.inl (w_46 hw)) (by decide) (t := .int) (t' := .int) (by decide) (by decide))))
  obtain ⟨T10, X10, e10, st10⟩ := getF X8 hx hZ hown (host := "") (Or.inl (w_43 hw)) Via.refl e8 f9 (g := (mkF mM 33 #[.val (.ref a)] [(.ref a), (.int d), (.ref x), (.ref a)])) rfl rfl (hb hby d_prog_141_method_8_33)
  have f11 := (F_a_m_nTo.other W3 (Or.inr (slot_ne (Or.inr (w_42 hw)) (Or.inl (w_46 hw)) (by decide) (t := .int) (t' := .int) (by decide) (by decide))))
  obtain ⟨T12, X12, e12, st12⟩ := getF X10 hx hZ hown (host := "") (Or.inl (w_41 hw)) Via.refl e10 f11 (g := (mkF mM 37 #[.val (.ref a)] [(.ref a), (.int (Int32.ofNat f)), (.int d), (.ref x), (.ref a)])) rfl rfl (hb hby d_prog_141_method_8_37)
  have f13 := ((Str_x).1.wr W3)
  have f14 := ((Str_x).2.1.other W3 (Or.inl ne12))
  have f15 := ((Str_x).2.2.1.other W3 (Or.inl ne12))
  have f16 := ((Str_x).2.2.2.1.other W3 ne13)
  have f17 := (O0.wr W3 g_a)
  obtain ⟨_, _, ⟨T18, L18, k18, n18⟩, -, X18, ⟨Lc18, hQ18, l18, y18, z18⟩, st18⟩ := Jvm.LawKit.callS X12 hx (y := (⟨"com/example/resultwire/resultwire/er7/Pieces", "endOf", "(Ljava/lang/String;III)I"⟩ : MethodName)) hown (mvT hZ (w_60 hw)) (mvT hZ (w_61 hw)) (mvT hZ (w_32 hw)) (mvT hZ (w_62 hw)) (by decide) (backOf (W := 1) (rm_eo l Z a0 hw [] x t kk cs d f tt zc fm h3 n0 f17 (⟨f13, f14, f15, f16, (Str_x).2.2.2.2⟩ : own_Str Z h3 x t kk cs) hp10 hp11 S_COMPACT_STRINGS hp15 S_SIOOBE_FORMATTER hp17) hZ (w_62 hw) (w_32 hw) (by decide) (by decide)) (g := (mkF mM 40 #[.val (.ref a)] [(.int (Int32.ofNat tt)), (.int (Int32.ofNat f)), (.int d), (.ref x), (.ref a)])) rfl (by rw [hml]; rfl) (argsL := [(.ref x), (.int d), (.int (Int32.ofNat f)), (.int (Int32.ofNat tt))]) (rest := [(.ref a)]) (lenOf pd_6 rfl) rfl (by show 2 * 0 + _ ≤ _; exact Nat.le_of_eq rfl) (hb hby d_prog_141_method_8_40) (fun _ _ => ⟨rfl, e12, (by decide : 0 + 0 ≤ _), (by decide : 0 + 0 ≤ _)⟩)
  dsimp only [Pt.U, Pt.locs, Pt.cells, Pt.slots] at X18 l18 y18 z18 st18 hQ18
  subst l18 y18 z18
  obtain ⟨rfl, rfl, Kq18⟩ := hQ18
  try rw [List.append_nil] at X18
  have f19 := (F_a_m_nEnd.other W3 (Or.inr (slot_ne (Or.inl (w_48 hw)) (Or.inl (w_46 hw)) (by decide) (t := .int) (t' := .int) (by decide) (by decide))))
  have f20 := (E_a.wr W3)
  obtain ⟨T21, h21, X21, e21, W21, st21⟩ := putF X18 hx hZ hown (host := "") (Or.inl (w_47 hw)) Via.refl Kq18 f19 f20 (Or.inl (w_48 hw)) (w_31 hw) (ty := .int) (by decide) rfl rfl (g := (mkF mM 43 #[.val (.ref a)] [(.int (Int32.ofNat (own_endOf cs d f tt))), (.ref a)])) rfl rfl (hb hby d_prog_141_method_8_43)
  have K22 : Keep h0 h21 [a] := K4.wr W21 (Or.inl (List.mem_of_getElem? (i := 0) rfl))
  have Fw21 : Fld Z h21 a "com/example/resultwire/resultwire/er7/Pieces" "m_nEnd" "I" (.int (Int32.ofNat (own_endOf cs d f tt))) := f19.same W21
  have N21 := Fr.snoc X21 N3 g_a
  obtain ⟨T23, X23, e23, st23⟩ := getF X21 hx hZ hown (host := "") (Or.inl (w_47 hw)) Via.refl e21 Fw21 (g := (mkF mM 48 #[.val (.ref a)] [(.ref a), (.ref a)])) rfl rfl (hb hby d_prog_141_method_8_48)
  have f24 := (f9.other W21 (Or.inr (slot_ne (Or.inl (w_44 hw)) (Or.inl (w_48 hw)) (by decide) (t := .int) (t' := .int) (by decide) (by decide))))
  have f25 := (f20.wr W21)
  obtain ⟨T26, h26, X26, e26, W26, st26⟩ := putF X23 hx hZ hown (host := "") (Or.inl (w_43 hw)) Via.refl e23 f24 f25 (Or.inl (w_44 hw)) (w_31 hw) (ty := .int) (by decide) rfl rfl (g := (mkF mM 53 #[.val (.ref a)] [(.int (Int32.ofNat (own_endOf cs d f tt + 1))), (.ref a)])) rfl rfl (hb hby d_prog_141_method_8_53)
  have K27 : Keep h0 h26 [a] := K22.wr W26 (Or.inl (List.mem_of_getElem? (i := 0) rfl))
  have Fw26 : Fld Z h26 a "com/example/resultwire/resultwire/er7/Pieces" "m_nFrom" "I" (.int (Int32.ofNat (own_endOf cs d f tt + 1))) := f24.same W26
  have N26 := Fr.snoc X26 N21 g_a
  have f28 := (((F_a_m_nNumber.other W3 (Or.inr (slot_ne (Or.inl (w_74 hw)) (Or.inl (w_46 hw)) (by decide) (t := .int) (t' := .int) (by decide) (by decide)))).other W21 (Or.inr (slot_ne (Or.inl (w_74 hw)) (Or.inl (w_48 hw)) (by decide) (t := .int) (t' := .int) (by decide) (by decide)))).other W26 (Or.inr (slot_ne (Or.inl (w_74 hw)) (Or.inl (w_44 hw)) (by decide) (t := .int) (t' := .int) (by decide) (by decide))))
  obtain ⟨T29, X29, e29, st29⟩ := getF X26 hx hZ hown (host := "") (Or.inl (w_73 hw)) Via.refl e26 f28 (g := (mkF mM 58 #[.val (.ref a)] [(.ref a), (.ref a)])) rfl rfl (hb hby d_prog_141_method_8_58)
  have f30 := (f25.wr W26)
  obtain ⟨T31, h31, X31, e31, W31, st31⟩ := putF X29 hx hZ hown (host := "") (Or.inl (w_73 hw)) Via.refl e29 f28 f30 (Or.inl (w_74 hw)) (w_31 hw) (ty := .int) (by decide) rfl rfl (g := (mkF mM 63 #[.val (.ref a)] [(.int (u + (1 : Int32))), (.ref a)])) rfl rfl (hb hby d_prog_141_method_8_63)
  have K32 : Keep h0 h31 [a] := K27.wr W31 (Or.inl (List.mem_of_getElem? (i := 0) rfl))
  have Fw31 : Fld Z h31 a "com/example/resultwire/resultwire/er7/Pieces" "m_nNumber" "I" (.int (u + (1 : Int32))) := f28.same W31
  have N31 := Fr.snoc X31 N26 g_a
  have f34 := (f30.wr W31)
  have f35 := (((f5.other W21 (Or.inr (slot_ne (Or.inr (w_38 hw)) (Or.inl (w_48 hw)) (by decide) (t := (.object "java/lang/String")) (t' := .int) (by decide) (by decide)))).other W26 (Or.inr (slot_ne (Or.inr (w_38 hw)) (Or.inl (w_44 hw)) (by decide) (t := (.object "java/lang/String")) (t' := .int) (by decide) (by decide)))).other W31 (Or.inr (slot_ne (Or.inr (w_38 hw)) (Or.inl (w_74 hw)) (by decide) (t := (.object "java/lang/String")) (t' := .int) (by decide) (by decide))))
  have f36 := (((f7.other W21 (Or.inr (slot_ne (Or.inr (w_40 hw)) (Or.inl (w_48 hw)) (by decide) (t := .int) (t' := .int) (by decide) (by decide)))).other W26 (Or.inr (slot_ne (Or.inr (w_40 hw)) (Or.inl (w_44 hw)) (by decide) (t := .int) (t' := .int) (by decide) (by decide)))).other W31 (Or.inr (slot_ne (Or.inr (w_40 hw)) (Or.inl (w_74 hw)) (by decide) (t := .int) (t' := .int) (by decide) (by decide))))
  have f37 := (((f11.other W21 (Or.inr (slot_ne (Or.inr (w_42 hw)) (Or.inl (w_48 hw)) (by decide) (t := .int) (t' := .int) (by decide) (by decide)))).other W26 (Or.inr (slot_ne (Or.inr (w_42 hw)) (Or.inl (w_44 hw)) (by decide) (t := .int) (t' := .int) (by decide) (by decide)))).other W31 (Or.inr (slot_ne (Or.inr (w_42 hw)) (Or.inl (w_74 hw)) (by decide) (t := .int) (t' := .int) (by decide) (by decide))))
  have f38 := (Fw26.other W31 (Or.inr (slot_ne (Or.inl (w_44 hw)) (Or.inl (w_74 hw)) (by decide) (t := .int) (t' := .int) (by decide) (by decide))))
  have f39 := (((Fw3.other W21 (Or.inr (slot_ne (Or.inl (w_46 hw)) (Or.inl (w_48 hw)) (by decide) (t := .int) (t' := .int) (by decide) (by decide)))).other W26 (Or.inr (slot_ne (Or.inl (w_46 hw)) (Or.inl (w_44 hw)) (by decide) (t := .int) (t' := .int) (by decide) (by decide)))).other W31 (Or.inr (slot_ne (Or.inl (w_46 hw)) (Or.inl (w_74 hw)) (by decide) (t := .int) (t' := .int) (by decide) (by decide))))
  have f40 := ((Fw21.other W26 (Or.inr (slot_ne (Or.inl (w_48 hw)) (Or.inl (w_44 hw)) (by decide) (t := .int) (t' := .int) (by decide) (by decide)))).other W31 (Or.inr (slot_ne (Or.inl (w_48 hw)) (Or.inl (w_74 hw)) (by decide) (t := .int) (t' := .int) (by decide) (by decide))))
  obtain ⟨fs, hr, hrun, hended, hW, hsame⟩ := X31.leave (v := none) (fun _ => rfl)
  refine ⟨_, _, pre0 _ ?_, hrun, hended, _, _, rfl, ?_, ⟨_, rfl⟩, hW, hsame.mono (by decide) (by decide)⟩
  · refine XS.aloadN X0.here hx rfl (hb hby d_prog_141_method_8_0) rfl rfl ?_
    show Steps pP.tables eE below (s₁.setTop (mkF mM 1 #[.val (.ref a)] [(.ref a)])) _
    refine st1.trans ?_
    show Steps pP.tables eE below (T1.setTop (mkF mM 4 #[.val (.ref a)] [(.int (own_hn (Int32.ofNat f) (Int32.ofNat tt)))])) _
    refine XS.ifYes X1.here hx rfl (pc0 := 4) (pc' := 15) rfl (hb hby d_prog_141_method_8_4) rfl ((if0 _ _).trans (feq (by rw [own_hn1 (own_nlt (by omega) (by have := Str_x.2.2.2.2.1; omega))]; decide)).2) (by decide) (by decide) ?_
    show Steps pP.tables eE below (T1.setTop (mkF mM 15 #[.val (.ref a)] [])) _
    refine XS.aloadN X1.here hx rfl (hb hby d_prog_141_method_8_15) rfl rfl ?_
    show Steps pP.tables eE below (T1.setTop (mkF mM 16 #[.val (.ref a)] [(.ref a)])) _
    refine XS.aloadN X1.here hx rfl (hb hby d_prog_141_method_8_16) rfl rfl ?_
    show Steps pP.tables eE below (T1.setTop (mkF mM 17 #[.val (.ref a)] [(.ref a), (.ref a)])) _
    refine st2 _ ?_
    show Steps pP.tables eE below (T2.setTop (mkF mM 20 #[.val (.ref a)] [(.int (Int32.ofNat f)), (.ref a)])) _
    refine st3 _ ?_
    show Steps pP.tables eE below (T3.setTop (mkF mM 23 #[.val (.ref a)] [])) _
    refine XS.aloadN X3.here hx rfl (hb hby d_prog_141_method_8_23) rfl rfl ?_
    show Steps pP.tables eE below (T3.setTop (mkF mM 24 #[.val (.ref a)] [(.ref a)])) _
    refine XS.aloadN X3.here hx rfl (hb hby d_prog_141_method_8_24) rfl rfl ?_
    show Steps pP.tables eE below (T3.setTop (mkF mM 25 #[.val (.ref a)] [(.ref a), (.ref a)])) _
    refine st6 _ ?_
    show Steps pP.tables eE below (T6.setTop (mkF mM 28 #[.val (.ref a)] [(.ref x), (.ref a)])) _
    refine XS.aloadN X6.here hx rfl (hb hby d_prog_141_method_8_28) rfl rfl ?_
    show Steps pP.tables eE below (T6.setTop (mkF mM 29 #[.val (.ref a)] [(.ref a), (.ref x), (.ref a)])) _
    refine st8 _ ?_
    show Steps pP.tables eE below (T8.setTop (mkF mM 32 #[.val (.ref a)] [(.int d), (.ref x), (.ref a)])) _
    refine XS.aloadN X8.here hx rfl (hb hby d_prog_141_method_8_32) rfl rfl ?_
    show Steps pP.tables eE below (T8.setTop (mkF mM 33 #[.val (.ref a)] [(.ref a), (.int d), (.ref x), (.ref a)])) _
    refine st10 _ ?_
    show Steps pP.tables eE below (T10.setTop (mkF mM 36 #[.val (.ref a)] [(.int (Int32.ofNat f)), (.int d), (.ref x), (.ref a)])) _
    refine XS.aloadN X10.here hx rfl (hb hby d_prog_141_method_8_36) rfl rfl ?_
    show Steps pP.tables eE below (T10.setTop (mkF mM 37 #[.val (.ref a)] [(.ref a), (.int (Int32.ofNat f)), (.int d), (.ref x), (.ref a)])) _
    refine st12 _ ?_
    show Steps pP.tables eE below (T12.setTop (mkF mM 40 #[.val (.ref a)] [(.int (Int32.ofNat tt)), (.int (Int32.ofNat f)), (.int d), (.ref x), (.ref a)])) _
    refine st18 _ ?_
    show Steps pP.tables eE below (T18.setTop (mkF mM 43 #[.val (.ref a)] [(.int (Int32.ofNat (own_endOf cs d f tt))), (.ref a)])) _
    refine st21 _ ?_
    show Steps pP.tables eE below (T21.setTop (mkF mM 46 #[.val (.ref a)] [])) _
    refine XS.aloadN X21.here hx rfl (hb hby d_prog_141_method_8_46) rfl rfl ?_
    show Steps pP.tables eE below (T21.setTop (mkF mM 47 #[.val (.ref a)] [(.ref a)])) _
    refine XS.aloadN X21.here hx rfl (hb hby d_prog_141_method_8_47) rfl rfl ?_
    show Steps pP.tables eE below (T21.setTop (mkF mM 48 #[.val (.ref a)] [(.ref a), (.ref a)])) _
    refine st23 _ ?_
    show Steps pP.tables eE below (T23.setTop (mkF mM 51 #[.val (.ref a)] [(.int (Int32.ofNat (own_endOf cs d f tt))), (.ref a)])) _
    refine XS.iconst X23.here hx rfl (hb hby d_prog_141_method_8_51) ?_
    show Steps pP.tables eE below (T23.setTop (mkF mM 52 #[.val (.ref a)] [(.int (1 : Int32)), (.int (Int32.ofNat (own_endOf cs d f tt))), (.ref a)])) _
    refine XS.iadd X23.here hx rfl (hb hby d_prog_141_method_8_52) rfl ?_
    show Steps pP.tables eE below (T23.setTop (mkF mM 53 #[.val (.ref a)] [(.int ((Int32.ofNat (own_endOf cs d f tt)) + (1 : Int32))), (.ref a)])) _
    rw [own_inc (own_endOf cs d f tt)]
    show Steps pP.tables eE below (T23.setTop (mkF mM 53 #[.val (.ref a)] [(.int (Int32.ofNat (own_endOf cs d f tt + 1))), (.ref a)])) _
    refine st26 _ ?_
    show Steps pP.tables eE below (T26.setTop (mkF mM 56 #[.val (.ref a)] [])) _
    refine XS.aloadN X26.here hx rfl (hb hby d_prog_141_method_8_56) rfl rfl ?_
    show Steps pP.tables eE below (T26.setTop (mkF mM 57 #[.val (.ref a)] [(.ref a)])) _
    refine XS.dup X26.here hx rfl (hb hby d_prog_141_method_8_57) rfl rfl ?_
    show Steps pP.tables eE below (T26.setTop (mkF mM 58 #[.val (.ref a)] [(.ref a), (.ref a)])) _
    refine st29 _ ?_
    show Steps pP.tables eE below (T29.setTop (mkF mM 61 #[.val (.ref a)] [(.int u), (.ref a)])) _
    refine XS.iconst X29.here hx rfl (hb hby d_prog_141_method_8_61) ?_
    show Steps pP.tables eE below (T29.setTop (mkF mM 62 #[.val (.ref a)] [(.int (1 : Int32)), (.int u), (.ref a)])) _
    refine XS.iadd X29.here hx rfl (hb hby d_prog_141_method_8_62) rfl ?_
    show Steps pP.tables eE below (T29.setTop (mkF mM 63 #[.val (.ref a)] [(.int (u + (1 : Int32))), (.ref a)])) _
    refine st31 _ ?_
    show Steps pP.tables eE below (T31.setTop (mkF mM 66 #[.val (.ref a)] [])) _
    exact X31.returnOut hx Bd.returns (hb hby d_prog_141_method_8_66) hr
  · show Q_adv Z a x t kk cs d f tt zc fm u v1 v2 h0 n0 _ T31.heap _
    rw [e31]
    exact ⟨rfl, N31, K32, f34, f35, f36, f37, f38, f39, f40, Fw31⟩
theorem ef_hit (m : MethodId) (x0 : Int32) (x1 : Int32) (x2 : Int32) (x3 : Int32) (x4 : Int32) : entryFrame m #[(.int x0), (.int x1), (.int x2), (.int x3), (.int x4)] 5 = mkF m 0 #[.val (.int x0), .val (.int x1), .val (.int x2), .val (.int x3), .val (.int x4)] [] := by first | (simp [entryFrame, mkF, argsToLocals, Value.category]; done) | rfl
def Q_hit (Z : State) (c : Int32) (i : Int32) (f : Int32) (q : Int32) (d : Int32) (h0 : Heap) (n0 : Nat) (vV : Option Value) (h : Heap) (LL : List Loc) : Prop := vV = some (.int (own_hit c i f q d)) ∧ LL = [] ∧ h = h0
set_option maxRecDepth 65536 in
set_option maxHeartbeats 40000000 in
theorem rm_hit (l : Launch) (Z : State) (a0 : Array Value) (hw : ∀ d ∈ tables_1, d.before a0 Z = true) (ws : List Jvm.Cond) (c : Int32) (i : Int32) (f : Int32) (q : Int32) (d : Int32) (h0 : Heap) (n0 : Nat) (O0 : Old Z n0 h0) :
    MetFree l (⟨"com/example/resultwire/resultwire/er7/PiecesIsSplitPinLaw", "hit", "(CIIII)Z"⟩ : MethodName) (head1 (Jvm.Cond.code (⟨"com/example/resultwire/resultwire/er7/PiecesIsSplitPinLaw", "hit", "(CIIII)Z"⟩ : MethodName) method_3_code 5 (some .boolean) :: ws) ({ frames := 0, cells := 0, slots := 0, locals := 0 } : Room)) (fun aa_ U => aa_ = #[(.int c), (.int i), (.int f), (.int q), (.int d)] ∧ Z.Warmed39 U.vm ∧ U.heap = h0) (fun _ _ _ _ _ => True) (fun _ U o U' => ∃ vV LL, o = .returned vV ∧ Q_hit Z c i f q d h0 n0 vV U'.heap LL ∧ FrameEnd U o U' LL ({ frames := 0, cells := 0, slots := 0, locals := 0 } : Room).cells ({ frames := 0, cells := 0, slots := 0, locals := 0 } : Room).slots) := by
  refine MetFree.of_bodySF (plainFor_of_name pn_3) hisR ?_
  intro pP eE sS mM args below meth cC s₁ Bd hml0 hP hK
  obtain ⟨rfl, hZ, hh⟩ := hP
  have hx := Bd.exec
  have hby := Bd.bytes
  have hml : cC.maxLocals = 5 := hml0
  have hown : sS.vm.findClass "com/example/resultwire/resultwire/er7/PiecesIsSplitPinLaw" = some mM.cls := findClass_of_methodNamed Bd.named
  have hnm := (name_of_methodNamed Bd.named Bd.method).1
  have X0 : Stand pP l eE ({ frames := 0, cells := 0, slots := 0, locals := 0 } : Room) sS mM #[(.int c), (.int i), (.int f), (.int q), (.int d)] below meth cC s₁ [] 0 0 := Stand.of_body Bd
  have e0 : s₁.heap = h0 := by rw [← hh, Bd.state]; rfl
  have N0 := Fr.nil n0
  have pre0 : ∀ tg, Steps pP.tables eE below (s₁.setTop (mkF mM 0 #[.val (.int c), .val (.int i), .val (.int f), .val (.int q), .val (.int d)] [])) tg → Steps pP.tables eE below (s₁.setTop (entryFrame mM #[(.int c), (.int i), (.int f), (.int q), (.int d)] 5)) tg := fun tg kg => castTop (ef_hit mM c i f q d) kg
  have pre2 : ∀ tg, Steps pP.tables eE below (s₁.setTop (mkF mM 2 #[.val (.int c), .val (.int i), .val (.int f), .val (.int q), .val (.int d)] [(.int i), (.int f)])) tg → Steps pP.tables eE below (s₁.setTop (entryFrame mM #[(.int c), (.int i), (.int f), (.int q), (.int d)] 5)) tg := fun tg kg => pre0 tg (by
    refine XS.iloadN X0.here hx rfl (hb hby d_method_3_0) rfl ?_
    show Steps pP.tables eE below (s₁.setTop (mkF mM 1 #[.val (.int c), .val (.int i), .val (.int f), .val (.int q), .val (.int d)] [(.int f)])) _
    refine XS.iloadN X0.here hx rfl (hb hby d_method_3_1) rfl ?_
    exact kg)
  by_cases hc1 : i < f
  · obtain ⟨fs, hr, hrun, hended, hW, hsame⟩ := X0.leave (v := some (.int (0 : Int32))) (fun h => by rw [Bd.returns] at h; cases h)
    refine ⟨_, _, pre2 _ ?_, hrun, hended, _, _, rfl, ?_, ⟨_, rfl⟩, hW, hsame.mono (by decide) (by decide)⟩
    · refine XS.icmpYes X0.here hx rfl (pc0 := 2) (pc' := 20) rfl (hb hby d_method_3_2) rfl (tlt hc1).2.2.1 (by decide) (by decide) ?_
      show Steps pP.tables eE below (s₁.setTop (mkF mM 20 #[.val (.int c), .val (.int i), .val (.int f), .val (.int q), .val (.int d)] [])) _
      refine XS.iconst X0.here hx rfl (hb hby d_method_3_20) ?_
      show Steps pP.tables eE below (s₁.setTop (mkF mM 21 #[.val (.int c), .val (.int i), .val (.int f), .val (.int q), .val (.int d)] [(.int (0 : Int32))])) _
      exact retN X0 hx (t := .boolean) Bd.returns (by simp) (hb hby d_method_3_21) hr
    · show Q_hit Z c i f q d h0 n0 _ s₁.heap _
      rw [e0]
      exact ⟨(by rw [own_hit, if_pos hc1]), rfl, rfl⟩
  · have pre5 : ∀ tg, Steps pP.tables eE below (s₁.setTop (mkF mM 7 #[.val (.int c), .val (.int i), .val (.int f), .val (.int q), .val (.int d)] [(.int q), (.int i)])) tg → Steps pP.tables eE below (s₁.setTop (entryFrame mM #[(.int c), (.int i), (.int f), (.int q), (.int d)] 5)) tg := fun tg kg => pre2 tg (by
      refine XS.icmpNo X0.here hx rfl (hb hby d_method_3_2) rfl (flt hc1).2.2.1 ?_
      show Steps pP.tables eE below (s₁.setTop (mkF mM 5 #[.val (.int c), .val (.int i), .val (.int f), .val (.int q), .val (.int d)] [])) _
      refine XS.iloadN X0.here hx rfl (hb hby d_method_3_5) rfl ?_
      show Steps pP.tables eE below (s₁.setTop (mkF mM 6 #[.val (.int c), .val (.int i), .val (.int f), .val (.int q), .val (.int d)] [(.int i)])) _
      refine XS.iloadN X0.here hx rfl (hb hby d_method_3_6) rfl ?_
      exact kg)
    by_cases hc4 : i < q
    · have pre7 : ∀ tg, Steps pP.tables eE below (s₁.setTop (mkF mM 13 #[.val (.int c), .val (.int i), .val (.int f), .val (.int q), .val (.int d)] [(.int d), (.int c)])) tg → Steps pP.tables eE below (s₁.setTop (entryFrame mM #[(.int c), (.int i), (.int f), (.int q), (.int d)] 5)) tg := fun tg kg => pre5 tg (by
        refine XS.icmpNo X0.here hx rfl (hb hby d_method_3_7) rfl (tlt hc4).2.1 ?_
        show Steps pP.tables eE below (s₁.setTop (mkF mM 10 #[.val (.int c), .val (.int i), .val (.int f), .val (.int q), .val (.int d)] [])) _
        refine XS.iloadN X0.here hx rfl (hb hby d_method_3_10) rfl ?_
        show Steps pP.tables eE below (s₁.setTop (mkF mM 11 #[.val (.int c), .val (.int i), .val (.int f), .val (.int q), .val (.int d)] [(.int c)])) _
        refine XS.iload X0.here hx rfl (hb hby d_method_3_11) rfl ?_
        exact kg)
      by_cases hc6 : c = d
      · obtain ⟨fs, hr, hrun, hended, hW, hsame⟩ := X0.leave (v := some (.int (1 : Int32))) (fun h => by rw [Bd.returns] at h; cases h)
        refine ⟨_, _, pre7 _ ?_, hrun, hended, _, _, rfl, ?_, ⟨_, rfl⟩, hW, hsame.mono (by decide) (by decide)⟩
        · refine XS.icmpNo X0.here hx rfl (hb hby d_method_3_13) rfl (teq hc6).2 ?_
          show Steps pP.tables eE below (s₁.setTop (mkF mM 16 #[.val (.int c), .val (.int i), .val (.int f), .val (.int q), .val (.int d)] [])) _
          refine XS.iconst X0.here hx rfl (hb hby d_method_3_16) ?_
          show Steps pP.tables eE below (s₁.setTop (mkF mM 17 #[.val (.int c), .val (.int i), .val (.int f), .val (.int q), .val (.int d)] [(.int (1 : Int32))])) _
          refine XS.goto X0.here hx rfl (pc0 := 17) (pc' := 21) rfl (hb hby d_method_3_17) (by decide) (by decide) ?_
          show Steps pP.tables eE below (s₁.setTop (mkF mM 21 #[.val (.int c), .val (.int i), .val (.int f), .val (.int q), .val (.int d)] [(.int (1 : Int32))])) _
          exact retN X0 hx (t := .boolean) Bd.returns (by simp) (hb hby d_method_3_21) hr
        · show Q_hit Z c i f q d h0 n0 _ s₁.heap _
          rw [e0]
          exact ⟨(by rw [own_hit, if_neg hc1, if_pos hc4, if_pos hc6]), rfl, rfl⟩
      · obtain ⟨fs, hr, hrun, hended, hW, hsame⟩ := X0.leave (v := some (.int (0 : Int32))) (fun h => by rw [Bd.returns] at h; cases h)
        refine ⟨_, _, pre7 _ ?_, hrun, hended, _, _, rfl, ?_, ⟨_, rfl⟩, hW, hsame.mono (by decide) (by decide)⟩
        · refine XS.icmpYes X0.here hx rfl (pc0 := 13) (pc' := 20) rfl (hb hby d_method_3_13) rfl (feq hc6).2 (by decide) (by decide) ?_
          show Steps pP.tables eE below (s₁.setTop (mkF mM 20 #[.val (.int c), .val (.int i), .val (.int f), .val (.int q), .val (.int d)] [])) _
          refine XS.iconst X0.here hx rfl (hb hby d_method_3_20) ?_
          show Steps pP.tables eE below (s₁.setTop (mkF mM 21 #[.val (.int c), .val (.int i), .val (.int f), .val (.int q), .val (.int d)] [(.int (0 : Int32))])) _
          exact retN X0 hx (t := .boolean) Bd.returns (by simp) (hb hby d_method_3_21) hr
        · show Q_hit Z c i f q d h0 n0 _ s₁.heap _
          rw [e0]
          exact ⟨(by rw [own_hit, if_neg hc1, if_pos hc4, if_neg hc6]), rfl, rfl⟩
    · obtain ⟨fs, hr, hrun, hended, hW, hsame⟩ := X0.leave (v := some (.int (0 : Int32))) (fun h => by rw [Bd.returns] at h; cases h)
      refine ⟨_, _, pre5 _ ?_, hrun, hended, _, _, rfl, ?_, ⟨_, rfl⟩, hW, hsame.mono (by decide) (by decide)⟩
      · refine XS.icmpYes X0.here hx rfl (pc0 := 7) (pc' := 20) rfl (hb hby d_method_3_7) rfl (flt hc4).2.1 (by decide) (by decide) ?_
        show Steps pP.tables eE below (s₁.setTop (mkF mM 20 #[.val (.int c), .val (.int i), .val (.int f), .val (.int q), .val (.int d)] [])) _
        refine XS.iconst X0.here hx rfl (hb hby d_method_3_20) ?_
        show Steps pP.tables eE below (s₁.setTop (mkF mM 21 #[.val (.int c), .val (.int i), .val (.int f), .val (.int q), .val (.int d)] [(.int (0 : Int32))])) _
        exact retN X0 hx (t := .boolean) Bd.returns (by simp) (hb hby d_method_3_21) hr
      · show Q_hit Z c i f q d h0 n0 _ s₁.heap _
        rw [e0]
        exact ⟨(by rw [own_hit, if_neg hc1, if_neg hc4]), rfl, rfl⟩
theorem ef_isp (m : MethodId) (x0 : Addr) : entryFrame m #[(.ref x0)] 1 = mkF m 0 #[.val (.ref x0)] [] := by first | (simp [entryFrame, mkF, argsToLocals, Value.category]; done) | rfl
def Q_isp (Z : State) (a : Addr) (u : Int32) (v : Int32) (w : Int32) (h0 : Heap) (n0 : Nat) (vV : Option Value) (h : Heap) (LL : List Loc) : Prop := vV = some (.int (own_is u v w)) ∧ LL = [] ∧ h = h0
set_option maxRecDepth 65536 in
set_option maxHeartbeats 40000000 in
theorem rm_isp (l : Launch) (Z : State) (a0 : Array Value) (hw : ∀ d ∈ tables_1, d.before a0 Z = true) (ws : List Jvm.Cond) (a : Addr) (u : Int32) (v : Int32) (w : Int32) (h0 : Heap) (n0 : Nat) (O0 : Old Z n0 h0) (F_a_m_nNumber : Fld Z h0 a "com/example/resultwire/resultwire/er7/Pieces" "m_nNumber" "I" (.int u)) (F_a_m_nEnd : Fld Z h0 a "com/example/resultwire/resultwire/er7/Pieces" "m_nEnd" "I" (.int v)) (F_a_m_nTo : Fld Z h0 a "com/example/resultwire/resultwire/er7/Pieces" "m_nTo" "I" (.int w)) :
    MetFree l (⟨"com/example/resultwire/resultwire/er7/Pieces", "isSplit", "()Z"⟩ : MethodName) (head1 (Jvm.Cond.code (⟨"com/example/resultwire/resultwire/er7/Pieces", "isSplit", "()Z"⟩ : MethodName) prog_141_method_4_code 1 (some .boolean) :: ws) ({ frames := 0, cells := 0, slots := 0, locals := 0 } : Room)) (fun aa_ U => aa_ = #[(.ref a)] ∧ Z.Warmed39 U.vm ∧ U.heap = h0) (fun _ _ _ _ _ => True) (fun _ U o U' => ∃ vV LL, o = .returned vV ∧ Q_isp Z a u v w h0 n0 vV U'.heap LL ∧ FrameEnd U o U' LL ({ frames := 0, cells := 0, slots := 0, locals := 0 } : Room).cells ({ frames := 0, cells := 0, slots := 0, locals := 0 } : Room).slots) := by
  refine MetFree.of_bodySF (plainFor_of_name pn_2) hisR ?_
  intro pP eE sS mM args below meth cC s₁ Bd hml0 hP hK
  obtain ⟨rfl, hZ, hh⟩ := hP
  have hx := Bd.exec
  have hby := Bd.bytes
  have hml : cC.maxLocals = 1 := hml0
  have hown : sS.vm.findClass "com/example/resultwire/resultwire/er7/Pieces" = some mM.cls := findClass_of_methodNamed Bd.named
  have hnm := (name_of_methodNamed Bd.named Bd.method).1
  have X0 : Stand pP l eE ({ frames := 0, cells := 0, slots := 0, locals := 0 } : Room) sS mM #[(.ref a)] below meth cC s₁ [] 0 0 := Stand.of_body Bd
  have e0 : s₁.heap = h0 := by rw [← hh, Bd.state]; rfl
  have N0 := Fr.nil n0
  have pre0 : ∀ tg, Steps pP.tables eE below (s₁.setTop (mkF mM 0 #[.val (.ref a)] [])) tg → Steps pP.tables eE below (s₁.setTop (entryFrame mM #[(.ref a)] 1)) tg := fun tg kg => castTop (ef_isp mM a) kg
  obtain ⟨T1, X1, e1, st1⟩ := getF X0 hx hZ hown (host := "") (Or.inl (w_73 hw)) Via.refl e0 F_a_m_nNumber (g := (mkF mM 1 #[.val (.ref a)] [(.ref a)])) rfl rfl (hb hby d_prog_141_method_4_1)
  have pre3 : ∀ tg, Steps pP.tables eE below (T1.setTop (mkF mM 5 #[.val (.ref a)] [(.int (1 : Int32)), (.int u)])) tg → Steps pP.tables eE below (s₁.setTop (entryFrame mM #[(.ref a)] 1)) tg := fun tg kg => pre0 tg (by
    refine XS.aloadN X0.here hx rfl (hb hby d_prog_141_method_4_0) rfl rfl ?_
    show Steps pP.tables eE below (s₁.setTop (mkF mM 1 #[.val (.ref a)] [(.ref a)])) _
    refine st1 _ ?_
    show Steps pP.tables eE below (T1.setTop (mkF mM 4 #[.val (.ref a)] [(.int u)])) _
    refine XS.iconst X1.here hx rfl (hb hby d_prog_141_method_4_4) ?_
    exact kg)
  by_cases hc2 : (1 : Int32) < u
  · obtain ⟨fs, hr, hrun, hended, hW, hsame⟩ := X1.leave (v := some (.int (1 : Int32))) (fun h => by rw [Bd.returns] at h; cases h)
    refine ⟨_, _, pre3 _ ?_, hrun, hended, _, _, rfl, ?_, ⟨_, rfl⟩, hW, hsame.mono (by decide) (by decide)⟩
    · refine XS.icmpYes X1.here hx rfl (pc0 := 5) (pc' := 27) rfl (hb hby d_prog_141_method_4_5) rfl (tlt hc2).2.2.1 (by decide) (by decide) ?_
      show Steps pP.tables eE below (T1.setTop (mkF mM 27 #[.val (.ref a)] [])) _
      refine XS.iconst X1.here hx rfl (hb hby d_prog_141_method_4_27) ?_
      show Steps pP.tables eE below (T1.setTop (mkF mM 28 #[.val (.ref a)] [(.int (1 : Int32))])) _
      refine XS.goto X1.here hx rfl (pc0 := 28) (pc' := 32) rfl (hb hby d_prog_141_method_4_28) (by decide) (by decide) ?_
      show Steps pP.tables eE below (T1.setTop (mkF mM 32 #[.val (.ref a)] [(.int (1 : Int32))])) _
      exact retN X1 hx (t := .boolean) Bd.returns (by simp) (hb hby d_prog_141_method_4_32) hr
    · show Q_isp Z a u v w h0 n0 _ T1.heap _
      rw [e1]
      exact ⟨(by rw [own_is, if_pos hc2]), rfl, rfl⟩
  · obtain ⟨T5, X5, e5, st5⟩ := getF X1 hx hZ hown (host := "") (Or.inl (w_73 hw)) Via.refl e1 F_a_m_nNumber (g := (mkF mM 9 #[.val (.ref a)] [(.ref a)])) rfl rfl (hb hby d_prog_141_method_4_9)
    have pre7 : ∀ tg, Steps pP.tables eE below (T5.setTop (mkF mM 13 #[.val (.ref a)] [(.int (1 : Int32)), (.int u)])) tg → Steps pP.tables eE below (s₁.setTop (entryFrame mM #[(.ref a)] 1)) tg := fun tg kg => pre3 tg (by
      refine XS.icmpNo X1.here hx rfl (hb hby d_prog_141_method_4_5) rfl (flt hc2).2.2.1 ?_
      show Steps pP.tables eE below (T1.setTop (mkF mM 8 #[.val (.ref a)] [])) _
      refine XS.aloadN X1.here hx rfl (hb hby d_prog_141_method_4_8) rfl rfl ?_
      show Steps pP.tables eE below (T1.setTop (mkF mM 9 #[.val (.ref a)] [(.ref a)])) _
      refine st5 _ ?_
      show Steps pP.tables eE below (T5.setTop (mkF mM 12 #[.val (.ref a)] [(.int u)])) _
      refine XS.iconst X5.here hx rfl (hb hby d_prog_141_method_4_12) ?_
      exact kg)
    by_cases hc6 : u = (1 : Int32)
    · obtain ⟨T8, X8, e8, st8⟩ := getF X5 hx hZ hown (host := "") (Or.inl (w_47 hw)) Via.refl e5 F_a_m_nEnd (g := (mkF mM 17 #[.val (.ref a)] [(.ref a)])) rfl rfl (hb hby d_prog_141_method_4_17)
      obtain ⟨T9, X9, e9, st9⟩ := getF X8 hx hZ hown (host := "") (Or.inl (w_41 hw)) Via.refl e8 F_a_m_nTo (g := (mkF mM 21 #[.val (.ref a)] [(.ref a), (.int v)])) rfl rfl (hb hby d_prog_141_method_4_21)
      have pre11 : ∀ tg, Steps pP.tables eE below (T9.setTop (mkF mM 24 #[.val (.ref a)] [(.int w), (.int v)])) tg → Steps pP.tables eE below (s₁.setTop (entryFrame mM #[(.ref a)] 1)) tg := fun tg kg => pre7 tg (by
        refine XS.icmpNo X5.here hx rfl (hb hby d_prog_141_method_4_13) rfl (teq hc6).2 ?_
        show Steps pP.tables eE below (T5.setTop (mkF mM 16 #[.val (.ref a)] [])) _
        refine XS.aloadN X5.here hx rfl (hb hby d_prog_141_method_4_16) rfl rfl ?_
        show Steps pP.tables eE below (T5.setTop (mkF mM 17 #[.val (.ref a)] [(.ref a)])) _
        refine st8 _ ?_
        show Steps pP.tables eE below (T8.setTop (mkF mM 20 #[.val (.ref a)] [(.int v)])) _
        refine XS.aloadN X8.here hx rfl (hb hby d_prog_141_method_4_20) rfl rfl ?_
        show Steps pP.tables eE below (T8.setTop (mkF mM 21 #[.val (.ref a)] [(.ref a), (.int v)])) _
        refine st9 _ ?_
        exact kg)
      by_cases hc10 : v < w
      · obtain ⟨fs, hr, hrun, hended, hW, hsame⟩ := X9.leave (v := some (.int (1 : Int32))) (fun h => by rw [Bd.returns] at h; cases h)
        refine ⟨_, _, pre11 _ ?_, hrun, hended, _, _, rfl, ?_, ⟨_, rfl⟩, hW, hsame.mono (by decide) (by decide)⟩
        · refine XS.icmpNo X9.here hx rfl (hb hby d_prog_141_method_4_24) rfl (tlt hc10).2.1 ?_
          show Steps pP.tables eE below (T9.setTop (mkF mM 27 #[.val (.ref a)] [])) _
          refine XS.iconst X9.here hx rfl (hb hby d_prog_141_method_4_27) ?_
          show Steps pP.tables eE below (T9.setTop (mkF mM 28 #[.val (.ref a)] [(.int (1 : Int32))])) _
          refine XS.goto X9.here hx rfl (pc0 := 28) (pc' := 32) rfl (hb hby d_prog_141_method_4_28) (by decide) (by decide) ?_
          show Steps pP.tables eE below (T9.setTop (mkF mM 32 #[.val (.ref a)] [(.int (1 : Int32))])) _
          exact retN X9 hx (t := .boolean) Bd.returns (by simp) (hb hby d_prog_141_method_4_32) hr
        · show Q_isp Z a u v w h0 n0 _ T9.heap _
          rw [e9]
          exact ⟨(by rw [own_is, if_neg hc2, if_pos hc6, if_pos hc10]), rfl, rfl⟩
      · obtain ⟨fs, hr, hrun, hended, hW, hsame⟩ := X9.leave (v := some (.int (0 : Int32))) (fun h => by rw [Bd.returns] at h; cases h)
        refine ⟨_, _, pre11 _ ?_, hrun, hended, _, _, rfl, ?_, ⟨_, rfl⟩, hW, hsame.mono (by decide) (by decide)⟩
        · refine XS.icmpYes X9.here hx rfl (pc0 := 24) (pc' := 31) rfl (hb hby d_prog_141_method_4_24) rfl (flt hc10).2.1 (by decide) (by decide) ?_
          show Steps pP.tables eE below (T9.setTop (mkF mM 31 #[.val (.ref a)] [])) _
          refine XS.iconst X9.here hx rfl (hb hby d_prog_141_method_4_31) ?_
          show Steps pP.tables eE below (T9.setTop (mkF mM 32 #[.val (.ref a)] [(.int (0 : Int32))])) _
          exact retN X9 hx (t := .boolean) Bd.returns (by simp) (hb hby d_prog_141_method_4_32) hr
        · show Q_isp Z a u v w h0 n0 _ T9.heap _
          rw [e9]
          exact ⟨(by rw [own_is, if_neg hc2, if_pos hc6, if_neg hc10]), rfl, rfl⟩
    · obtain ⟨fs, hr, hrun, hended, hW, hsame⟩ := X5.leave (v := some (.int (0 : Int32))) (fun h => by rw [Bd.returns] at h; cases h)
      refine ⟨_, _, pre7 _ ?_, hrun, hended, _, _, rfl, ?_, ⟨_, rfl⟩, hW, hsame.mono (by decide) (by decide)⟩
      · refine XS.icmpYes X5.here hx rfl (pc0 := 13) (pc' := 31) rfl (hb hby d_prog_141_method_4_13) rfl (feq hc6).2 (by decide) (by decide) ?_
        show Steps pP.tables eE below (T5.setTop (mkF mM 31 #[.val (.ref a)] [])) _
        refine XS.iconst X5.here hx rfl (hb hby d_prog_141_method_4_31) ?_
        show Steps pP.tables eE below (T5.setTop (mkF mM 32 #[.val (.ref a)] [(.int (0 : Int32))])) _
        exact retN X5 hx (t := .boolean) Bd.returns (by simp) (hb hby d_prog_141_method_4_32) hr
      · show Q_isp Z a u v w h0 n0 _ T5.heap _
        rw [e5]
        exact ⟨(by rw [own_is, if_neg hc2, if_neg hc6]), rfl, rfl⟩
theorem ef_law (m : MethodId) (x0 : Int32) (x1 : Int32) (x2 : Int32) (x3 : Int32) (x4 : Int32) (x5 : Int32) : entryFrame m #[(.int x0), (.int x1), (.int x2), (.int x3), (.int x4), (.int x5)] maxLocals = mkF m 0 #[.val (.int x0), .val (.int x1), .val (.int x2), .val (.int x3), .val (.int x4), .val (.int x5), .unset, .unset, .unset, .unset, .unset, .unset, .unset, .unset, .unset] [] := by first | (simp [entryFrame, mkF, argsToLocals, Value.category, maxLocals]; done) | rfl
def Q_law (Z : State) (p0 : Int32) (p1 : Int32) (p2 : Int32) (p3 : Int32) (p4 : Int32) (p5 : Int32) (zc : Int32) (fm : Value) (h0 : Heap) (n0 : Nat) (vV : Option Value) (h : Heap) (LL : List Loc) : Prop := vV = some (.int 1) ∧ Fr n0 LL ∧ Keep h0 h []
set_option maxRecDepth 65536 in
set_option maxHeartbeats 40000000 in
theorem rm_law (l : Launch) (Z : State) (a0 : Array Value) (hw : ∀ d ∈ tables_1, d.before a0 Z = true) (ws : List Jvm.Cond) (p0 : Int32) (p1 : Int32) (p2 : Int32) (p3 : Int32) (p4 : Int32) (p5 : Int32) (zc : Int32) (fm : Value) (h0 : Heap) (n0 : Nat) (O0 : Old Z n0 h0) (S_COMPACT_STRINGS : Sta Z Z.heap "java/lang/String" "COMPACT_STRINGS" "Z" (.int zc)) (hp1 : ¬ (zc = (0 : Int32))) (S_SIOOBE_FORMATTER : Sta Z Z.heap "jdk/internal/util/Preconditions" "SIOOBE_FORMATTER" "Ljava/util/function/BiFunction;" fm) (hp3 : fm.isRef = true) :
    MetFree l x (head1 (Jvm.Cond.code x code maxLocals ret :: ws) room_1) (fun aa_ U => aa_ = #[(.int p0), (.int p1), (.int p2), (.int p3), (.int p4), (.int p5)] ∧ Z.Warmed39 U.vm ∧ U.heap = h0) (fun _ _ _ _ _ => True) (fun _ U o U' => ∃ vV LL, o = .returned vV ∧ Q_law Z p0 p1 p2 p3 p4 p5 zc fm h0 n0 vV U'.heap LL ∧ FrameEnd U o U' LL room_1.cells room_1.slots) := by
  refine MetFree.of_bodySF (plainFor_of_name pn_3) hisR ?_
  intro pP eE sS mM args below meth cC s₁ Bd hml0 hP hK
  obtain ⟨rfl, hZ, hh⟩ := hP
  have hx := Bd.exec
  have hby := Bd.bytes
  have hml : cC.maxLocals = 15 := hml0
  have hown : sS.vm.findClass "com/example/resultwire/resultwire/er7/PiecesIsSplitPinLaw" = some mM.cls := findClass_of_methodNamed Bd.named
  have hnm := (name_of_methodNamed Bd.named Bd.method).1
  have X0 : Stand pP l eE room_1 sS mM #[(.int p0), (.int p1), (.int p2), (.int p3), (.int p4), (.int p5)] below meth cC s₁ [] 0 0 := Stand.of_body Bd
  have e0 : s₁.heap = h0 := by rw [← hh, Bd.state]; rfl
  have N0 := Fr.nil n0
  have pre0 : ∀ tg, Steps pP.tables eE below (s₁.setTop (mkF mM 0 #[.val (.int p0), .val (.int p1), .val (.int p2), .val (.int p3), .val (.int p4), .val (.int p5), .unset, .unset, .unset, .unset, .unset, .unset, .unset, .unset, .unset] [])) tg → Steps pP.tables eE below (s₁.setTop (entryFrame mM #[(.int p0), (.int p1), (.int p2), (.int p3), (.int p4), (.int p5)] maxLocals)) tg := fun tg kg => castTop (ef_law mM p0 p1 p2 p3 p4 p5) kg
  have K0 : Keep h0 h0 [] := Keep.refl _ _
  obtain ⟨tt, htt, ett⟩ := own_and3 p4
  obtain ⟨ff, hff, eff⟩ := own_and3 ((p4.toUInt32 >>> ((2 : Int32) &&& 31).toUInt32).toInt32)
  obtain ⟨f, hf⟩ : ∃ z, z = ff % (tt + 1) := ⟨_, rfl⟩
  have hft : f ≤ tt := by have := Nat.mod_lt ff (show 0 < tt + 1 by omega); omega
  have erem : Int32.ofNat ff % Int32.ofNat (tt + 1) = Int32.ofNat f := by rw [own_rem ff tt (by omega) (by omega), hf]
  have hcs : ∀ c ∈ ([(p0 &&& (255 : Int32)), (p1 &&& (255 : Int32)), (p2 &&& (255 : Int32))] : List Int32), ¬ c < 0 ∧ ¬ (255 : Int32) < c := by
    intro c hc
    simp only [List.mem_cons, List.not_mem_nil, or_false] at hc
    rcases hc with rfl | rfl | rfl <;> exact own_c255 _
  have hnz := own_nz tt (by omega)
  have hlen : ([(p0 &&& (255 : Int32)), (p1 &&& (255 : Int32)), (p2 &&& (255 : Int32))] : List Int32).length = 3 := rfl
  obtain ⟨T1, h1, k1, X1, e1, E1, A1, st1⟩ := newP X0 hx hZ (aty := .char) (w_0 hw) e0 (g := (mkF mM 1 #[.val (.int p0), .val (.int p1), .val (.int p2), .val (.int p3), .val (.int p4), .val (.int p5), .unset, .unset, .unset, .unset, .unset, .unset, .unset, .unset, .unset] [(.int (3 : Int32))])) rfl (hb hby at_1) rfl (by decide) (cap := 3) (by decide) (by decide) (by decide) (by decide)
  obtain ⟨b1, g1⟩ : ∃ z, z = h0.size := ⟨_, rfl⟩
  rw [← g1] at A1 st1
  have g_b1 : n0 ≤ b1 := Nat.le_trans (own_osz O0) (Nat.le_of_eq g1.symm)
  have sz_b1 : h0.size ≤ b1 := Nat.le_trans K0.1 (Nat.le_of_eq g1.symm)
  have K2 : Keep h0 h1 [] := K0.ext E1
  have V1 : Arv Z h1 b1 k1 .char (3 : Int32) [(.int (0 : Int32)), (.int (0 : Int32)), (.int (0 : Int32))] (.int (0 : Int32)) := (Arv.new A1 (by decide)).pad (pad_rep [] (.int (0 : Int32)) 3)
  let Ls3 : Array Slot := #[.val (.int p0), .val (.int p1), .val (.int p2), .val (.int p3), .val (.int p4), .val (.int p5), .val (.ref b1), .unset, .unset, .unset, .unset, .unset, .unset, .unset, .unset]
  obtain ⟨cl4, Ar4, qk4, S4, Nn4, Hh4, G4⟩ := id V1
  have hin4 : ¬ ((0 : Int32) < 0 ∨ cl4.slots.size ≤ ((0 : Int32)).toNatClampNeg) := inb_of S4 ⟨by decide, by decide⟩
  obtain ⟨T4, h4, X4, e4, W4, st4⟩ := stC X1 hx hZ e1 Ar4 (j := (0 : Int32)) hin4 (g := (mkF mM 14 Ls3 [(.int (p0 &&& (255 : Int32))), (.int (0 : Int32)), (.ref b1)])) rfl rfl (hb hby at_14)
  rw [own_narm p0] at W4
  have K5 : Keep h0 h4 [] := K2.wr W4 (Or.inr sz_b1)
  have V4 : Arv Z h4 b1 k1 .char (3 : Int32) [(.int (p0 &&& (255 : Int32))), (.int (0 : Int32)), (.int (0 : Int32))] (.int (0 : Int32)) := Arv.set Ar4 qk4 S4 Nn4 Hh4 G4 (own_narm p0 ▸ fits_nar_char _) W4 0 rfl (Nat.le_of_ble_eq_true rfl)
  have N4 := Fr.snoc X4 N0 g_b1
  obtain ⟨cl6, Ar6, qk6, S6, Nn6, Hh6, G6⟩ := id V4
  have hin6 : ¬ ((1 : Int32) < 0 ∨ cl6.slots.size ≤ ((1 : Int32)).toNatClampNeg) := inb_of S6 ⟨by decide, by decide⟩
  obtain ⟨T6, h6, X6, e6, W6, st6⟩ := stC X4 hx hZ e4 Ar6 (j := (1 : Int32)) hin6 (g := (mkF mM 24 Ls3 [(.int (p1 &&& (255 : Int32))), (.int (1 : Int32)), (.ref b1)])) rfl rfl (hb hby at_24)
  rw [own_narm p1] at W6
  have K7 : Keep h0 h6 [] := K5.wr W6 (Or.inr sz_b1)
  have V6 : Arv Z h6 b1 k1 .char (3 : Int32) [(.int (p0 &&& (255 : Int32))), (.int (p1 &&& (255 : Int32))), (.int (0 : Int32))] (.int (0 : Int32)) := Arv.set Ar6 qk6 S6 Nn6 Hh6 G6 (own_narm p1 ▸ fits_nar_char _) W6 1 rfl (Nat.le_of_ble_eq_true rfl)
  have N6 := Fr.snoc X6 N4 g_b1
  obtain ⟨cl8, Ar8, qk8, S8, Nn8, Hh8, G8⟩ := id V6
  have hin8 : ¬ ((2 : Int32) < 0 ∨ cl8.slots.size ≤ ((2 : Int32)).toNatClampNeg) := inb_of S8 ⟨by decide, by decide⟩
  obtain ⟨T8, h8, X8, e8, W8, st8⟩ := stC X6 hx hZ e6 Ar8 (j := (2 : Int32)) hin8 (g := (mkF mM 34 Ls3 [(.int (p2 &&& (255 : Int32))), (.int (2 : Int32)), (.ref b1)])) rfl rfl (hb hby at_34)
  rw [own_narm p2] at W8
  have K9 : Keep h0 h8 [] := K7.wr W8 (Or.inr sz_b1)
  have V8 : Arv Z h8 b1 k1 .char (3 : Int32) [(.int (p0 &&& (255 : Int32))), (.int (p1 &&& (255 : Int32))), (.int (p2 &&& (255 : Int32)))] (.int (0 : Int32)) := Arv.set Ar8 qk8 S8 Nn8 Hh8 G8 (own_narm p2 ▸ fits_nar_char _) W8 2 rfl (Nat.le_of_ble_eq_true rfl)
  have N8 := Fr.snoc X8 N6 g_b1
  obtain ⟨T10, h10, X10, e10, E10, A10, D10, -, st10⟩ := newO X8 hx hZ hown (w_1 hw) (w_2 hw) (w_3 hw) e8 (g := (mkF mM 35 Ls3 [])) rfl (hb hby at_35) (by decide) (by decide)
  obtain ⟨b10, g10⟩ : ∃ z, z = h8.size := ⟨_, rfl⟩
  rw [← g10] at A10 D10 st10
  have f11 := ((((O0.ext E1).wr W4 g_b1).wr W6 g_b1).wr W8 g_b1)
  have g_b10 : n0 ≤ b10 := Nat.le_trans (own_osz f11) (Nat.le_of_eq g10.symm)
  have sz_b10 : h0.size ≤ b10 := Nat.le_trans K9.1 (Nat.le_of_eq g10.symm)
  have K12 : Keep h0 h10 [] := K9.ext E10
  have F_b10_coder : Fld Z h10 b10 "java/lang/String" "coder" "B" (.int (0 : Int32)) := D10 (Or.inr (w_27 hw)) (ty := .byte) (by decide)
  have F_b10_value : Fld Z h10 b10 "java/lang/String" "value" "[B" .null := D10 (Or.inr (w_29 hw)) (ty := (.array .byte)) (by decide)
  have f13 := (f11.ext E10)
  have f14 := (V8.ext E10)
  obtain ⟨_, _, ⟨T15, L15, k15, n15⟩, -, X15, ⟨Lc15, hQ15, l15, y15, z15⟩, st15⟩ := X10.specialBack hx (y := (⟨"java/lang/String", "<init>", "([C)V"⟩ : MethodName)) rfl hown (mvT hZ (w_4 hw)) (mvT hZ (w_5 hw)) (mvT hZ (w_6 hw)) (by decide) (own_new (W := 1) hZ hw (cs := [(p0 &&& (255 : Int32)), (p1 &&& (255 : Int32)), (p2 &&& (255 : Int32))]) (n := 3) g_b10 (own_osz f13) A10 F_b10_value F_b10_coder f14 (Sta.ext (f13).2 S_COMPACT_STRINGS) hp1 rfl rfl (by decide) (by decide) hcs (by decide) (by decide)) (g := (mkF mM 41 Ls3 [(.ref b1), (.ref b10), (.ref b10)])) rfl (by rw [hml]; rfl) (Steps.refl _) (a := b10) (argsL := [(.ref b1)]) (rest := [(.ref b10)]) (lenOf pd_7 rfl) rfl (by show 2 * 0 + _ ≤ _; exact Nat.le_of_eq rfl) (hb hby at_41) (fun _ _ => ⟨rfl, e10, (by decide : 2 + 1 ≤ _), (by decide : 7 + 3 ≤ _)⟩)
  dsimp only [Pt.U, Pt.locs, Pt.cells, Pt.slots] at X15 l15 y15 z15 st15 hQ15
  subst l15 y15 z15
  obtain ⟨rfl, Nq15, Kq15, t15, kb15, hs15, Sq15⟩ := hQ15
  have N15 := Fr.app N8 Nq15
  have g_t15 : n0 ≤ t15 := Nat.le_trans (own_osz f13) hs15
  have sz_t15 : h0.size ≤ t15 := Nat.le_trans K12.1 hs15
  have K16 : Keep h0 T15.heap [] := K12.trans Kq15 (allS (Or.inr sz_b10) all0)
  let Ls17 : Array Slot := #[.val (.int p0), .val (.int p1), .val (.int p2), .val (.int p3), .val (.int p4), .val (.int p5), .val (.ref b1), .val (.ref b10), .unset, .unset, .unset, .unset, .unset, .unset, .unset]
  obtain ⟨T18, X18, e18, st18⟩ := own_to X15 (h := T15.heap) (g := (mkF mM 46 Ls17 [])) (g' := (mkF mM 63 Ls17 [(.int (own_dl p3))])) (by
    have pre20 : ∀ tg, Steps pP.tables eE below (T15.setTop (mkF mM 51 Ls17 [(.int (p3 &&& (256 : Int32)))])) tg → Steps pP.tables eE below (T15.setTop (mkF mM 46 Ls17 [])) tg := fun tg kg => (by
      refine XS.iloadN X15.here hx rfl (hb hby at_46) rfl ?_
      show Steps pP.tables eE below (T15.setTop (mkF mM 47 Ls17 [(.int p3)])) _
      refine XS.sipush X15.here hx rfl (hb hby at_47) ?_
      show Steps pP.tables eE below (T15.setTop (mkF mM 50 Ls17 [(.int (256 : Int32)), (.int p3)])) _
      refine XS.iand X15.here hx rfl (hb hby at_50) rfl ?_
      exact kg)
    by_cases hc19 : (p3 &&& (256 : Int32)) = (0 : Int32)
    · refine ⟨T15, X15, rfl, fun tg kg => ?_⟩
      rw [show own_dl p3 = (p3 &&& (255 : Int32)) from if_pos hc19] at kg
      refine pre20 tg ?_
      refine XS.ifYes X15.here hx rfl (pc0 := 51) (pc' := 58) rfl (hb hby at_51) rfl ((if0 _ _).trans (teq hc19).1) (by decide) (by decide) ?_
      show Steps pP.tables eE below (T15.setTop (mkF mM 58 Ls17 [])) _
      refine XS.iloadN X15.here hx rfl (hb hby at_58) rfl ?_
      show Steps pP.tables eE below (T15.setTop (mkF mM 59 Ls17 [(.int p3)])) _
      refine XS.sipush X15.here hx rfl (hb hby at_59) ?_
      show Steps pP.tables eE below (T15.setTop (mkF mM 62 Ls17 [(.int (255 : Int32)), (.int p3)])) _
      refine XS.iand X15.here hx rfl (hb hby at_62) rfl ?_
      exact kg
    · refine ⟨T15, X15, rfl, fun tg kg => ?_⟩
      rw [show own_dl p3 = (-1 : Int32) from if_neg hc19] at kg
      refine pre20 tg ?_
      refine XS.ifNo X15.here hx rfl (hb hby at_51) rfl ((if0 _ _).trans (feq hc19).1) ?_
      show Steps pP.tables eE below (T15.setTop (mkF mM 54 Ls17 [])) _
      refine XS.iconst X15.here hx rfl (hb hby at_54) ?_
      show Steps pP.tables eE below (T15.setTop (mkF mM 55 Ls17 [(.int (-1 : Int32))])) _
      refine XS.goto X15.here hx rfl (pc0 := 55) (pc' := 63) rfl (hb hby at_55) (by decide) (by decide) ?_
      exact kg)
  let Ls21 : Array Slot := #[.val (.int p0), .val (.int p1), .val (.int p2), .val (.int p3), .val (.int p4), .val (.int p5), .val (.ref b1), .val (.ref b10), .val (.int (own_dl p3)), .unset, .unset, .unset, .unset, .unset, .unset]
  let Ls22 : Array Slot := #[.val (.int p0), .val (.int p1), .val (.int p2), .val (.int p3), .val (.int p4), .val (.int p5), .val (.ref b1), .val (.ref b10), .val (.int (own_dl p3)), .val (.int (Int32.ofNat tt)), .unset, .unset, .unset, .unset, .unset]
  let Ls23 : Array Slot := #[.val (.int p0), .val (.int p1), .val (.int p2), .val (.int p3), .val (.int p4), .val (.int p5), .val (.ref b1), .val (.ref b10), .val (.int (own_dl p3)), .val (.int (Int32.ofNat tt)), .val (.int (Int32.ofNat f)), .unset, .unset, .unset, .unset]
  have pre24 : ∀ tg, Steps pP.tables eE below (T18.setTop (mkF mM 84 Ls23 [])) tg → Steps pP.tables eE below (s₁.setTop (entryFrame mM #[(.int p0), (.int p1), (.int p2), (.int p3), (.int p4), (.int p5)] maxLocals)) tg := fun tg kg => pre0 tg (by
    refine XS.iconst X0.here hx rfl (hb hby at_0) ?_
    show Steps pP.tables eE below (s₁.setTop (mkF mM 1 #[.val (.int p0), .val (.int p1), .val (.int p2), .val (.int p3), .val (.int p4), .val (.int p5), .unset, .unset, .unset, .unset, .unset, .unset, .unset, .unset, .unset] [(.int (3 : Int32))])) _
    refine st1 _ ?_
    show Steps pP.tables eE below (T1.setTop (mkF mM 3 #[.val (.int p0), .val (.int p1), .val (.int p2), .val (.int p3), .val (.int p4), .val (.int p5), .unset, .unset, .unset, .unset, .unset, .unset, .unset, .unset, .unset] [(.ref b1)])) _
    refine XS.astore X1.here hx rfl (hb hby at_3) rfl rfl (l' := Ls3) rfl ?_
    show Steps pP.tables eE below (T1.setTop (mkF mM 5 Ls3 [])) _
    refine XS.aload X1.here hx rfl (hb hby at_5) rfl rfl ?_
    show Steps pP.tables eE below (T1.setTop (mkF mM 7 Ls3 [(.ref b1)])) _
    refine XS.iconst X1.here hx rfl (hb hby at_7) ?_
    show Steps pP.tables eE below (T1.setTop (mkF mM 8 Ls3 [(.int (0 : Int32)), (.ref b1)])) _
    refine XS.iloadN X1.here hx rfl (hb hby at_8) rfl ?_
    show Steps pP.tables eE below (T1.setTop (mkF mM 9 Ls3 [(.int p0), (.int (0 : Int32)), (.ref b1)])) _
    refine XS.sipush X1.here hx rfl (hb hby at_9) ?_
    show Steps pP.tables eE below (T1.setTop (mkF mM 12 Ls3 [(.int (255 : Int32)), (.int p0), (.int (0 : Int32)), (.ref b1)])) _
    refine XS.iand X1.here hx rfl (hb hby at_12) rfl ?_
    show Steps pP.tables eE below (T1.setTop (mkF mM 13 Ls3 [(.int (p0 &&& (255 : Int32))), (.int (0 : Int32)), (.ref b1)])) _
    refine XS.i2c X1.here hx rfl (hb hby at_13) rfl ?_
    show Steps pP.tables eE below (T1.setTop (mkF mM 14 Ls3 [(.int ((p0 &&& (255 : Int32)).toUInt32.toUInt16.toUInt32.toInt32)), (.int (0 : Int32)), (.ref b1)])) _
    rw [i2c_mask p0]
    show Steps pP.tables eE below (T1.setTop (mkF mM 14 Ls3 [(.int (p0 &&& (255 : Int32))), (.int (0 : Int32)), (.ref b1)])) _
    refine st4 _ ?_
    show Steps pP.tables eE below (T4.setTop (mkF mM 15 Ls3 [])) _
    refine XS.aload X4.here hx rfl (hb hby at_15) rfl rfl ?_
    show Steps pP.tables eE below (T4.setTop (mkF mM 17 Ls3 [(.ref b1)])) _
    refine XS.iconst X4.here hx rfl (hb hby at_17) ?_
    show Steps pP.tables eE below (T4.setTop (mkF mM 18 Ls3 [(.int (1 : Int32)), (.ref b1)])) _
    refine XS.iloadN X4.here hx rfl (hb hby at_18) rfl ?_
    show Steps pP.tables eE below (T4.setTop (mkF mM 19 Ls3 [(.int p1), (.int (1 : Int32)), (.ref b1)])) _
    refine XS.sipush X4.here hx rfl (hb hby at_19) ?_
    show Steps pP.tables eE below (T4.setTop (mkF mM 22 Ls3 [(.int (255 : Int32)), (.int p1), (.int (1 : Int32)), (.ref b1)])) _
    refine XS.iand X4.here hx rfl (hb hby at_22) rfl ?_
    show Steps pP.tables eE below (T4.setTop (mkF mM 23 Ls3 [(.int (p1 &&& (255 : Int32))), (.int (1 : Int32)), (.ref b1)])) _
    refine XS.i2c X4.here hx rfl (hb hby at_23) rfl ?_
    show Steps pP.tables eE below (T4.setTop (mkF mM 24 Ls3 [(.int ((p1 &&& (255 : Int32)).toUInt32.toUInt16.toUInt32.toInt32)), (.int (1 : Int32)), (.ref b1)])) _
    rw [i2c_mask p1]
    show Steps pP.tables eE below (T4.setTop (mkF mM 24 Ls3 [(.int (p1 &&& (255 : Int32))), (.int (1 : Int32)), (.ref b1)])) _
    refine st6 _ ?_
    show Steps pP.tables eE below (T6.setTop (mkF mM 25 Ls3 [])) _
    refine XS.aload X6.here hx rfl (hb hby at_25) rfl rfl ?_
    show Steps pP.tables eE below (T6.setTop (mkF mM 27 Ls3 [(.ref b1)])) _
    refine XS.iconst X6.here hx rfl (hb hby at_27) ?_
    show Steps pP.tables eE below (T6.setTop (mkF mM 28 Ls3 [(.int (2 : Int32)), (.ref b1)])) _
    refine XS.iloadN X6.here hx rfl (hb hby at_28) rfl ?_
    show Steps pP.tables eE below (T6.setTop (mkF mM 29 Ls3 [(.int p2), (.int (2 : Int32)), (.ref b1)])) _
    refine XS.sipush X6.here hx rfl (hb hby at_29) ?_
    show Steps pP.tables eE below (T6.setTop (mkF mM 32 Ls3 [(.int (255 : Int32)), (.int p2), (.int (2 : Int32)), (.ref b1)])) _
    refine XS.iand X6.here hx rfl (hb hby at_32) rfl ?_
    show Steps pP.tables eE below (T6.setTop (mkF mM 33 Ls3 [(.int (p2 &&& (255 : Int32))), (.int (2 : Int32)), (.ref b1)])) _
    refine XS.i2c X6.here hx rfl (hb hby at_33) rfl ?_
    show Steps pP.tables eE below (T6.setTop (mkF mM 34 Ls3 [(.int ((p2 &&& (255 : Int32)).toUInt32.toUInt16.toUInt32.toInt32)), (.int (2 : Int32)), (.ref b1)])) _
    rw [i2c_mask p2]
    show Steps pP.tables eE below (T6.setTop (mkF mM 34 Ls3 [(.int (p2 &&& (255 : Int32))), (.int (2 : Int32)), (.ref b1)])) _
    refine st8 _ ?_
    show Steps pP.tables eE below (T8.setTop (mkF mM 35 Ls3 [])) _
    refine st10 _ ?_
    show Steps pP.tables eE below (T10.setTop (mkF mM 38 Ls3 [(.ref b10)])) _
    refine XS.dup X10.here hx rfl (hb hby at_38) rfl rfl ?_
    show Steps pP.tables eE below (T10.setTop (mkF mM 39 Ls3 [(.ref b10), (.ref b10)])) _
    refine XS.aload X10.here hx rfl (hb hby at_39) rfl rfl ?_
    show Steps pP.tables eE below (T10.setTop (mkF mM 41 Ls3 [(.ref b1), (.ref b10), (.ref b10)])) _
    refine st15.trans ?_
    show Steps pP.tables eE below (T15.setTop (mkF mM 44 Ls3 [(.ref b10)])) _
    refine XS.astore X15.here hx rfl (hb hby at_44) rfl rfl (l' := Ls17) rfl ?_
    show Steps pP.tables eE below (T15.setTop (mkF mM 46 Ls17 [])) _
    refine st18 _ ?_
    show Steps pP.tables eE below (T18.setTop (mkF mM 63 Ls17 [(.int (own_dl p3))])) _
    refine XS.istore X18.here hx rfl (hb hby at_63) rfl (l' := Ls21) rfl ?_
    show Steps pP.tables eE below (T18.setTop (mkF mM 65 Ls21 [])) _
    refine XS.iload X18.here hx rfl (hb hby at_65) rfl ?_
    show Steps pP.tables eE below (T18.setTop (mkF mM 67 Ls21 [(.int p4)])) _
    refine XS.iconst X18.here hx rfl (hb hby at_67) ?_
    show Steps pP.tables eE below (T18.setTop (mkF mM 68 Ls21 [(.int (3 : Int32)), (.int p4)])) _
    refine XS.iand X18.here hx rfl (hb hby at_68) rfl ?_
    show Steps pP.tables eE below (T18.setTop (mkF mM 69 Ls21 [(.int (p4 &&& (3 : Int32)))])) _
    rw [ett]
    show Steps pP.tables eE below (T18.setTop (mkF mM 69 Ls21 [(.int (Int32.ofNat tt))])) _
    refine XS.istore X18.here hx rfl (hb hby at_69) rfl (l' := Ls22) rfl ?_
    show Steps pP.tables eE below (T18.setTop (mkF mM 71 Ls22 [])) _
    refine XS.iload X18.here hx rfl (hb hby at_71) rfl ?_
    show Steps pP.tables eE below (T18.setTop (mkF mM 73 Ls22 [(.int p4)])) _
    refine XS.iconst X18.here hx rfl (hb hby at_73) ?_
    show Steps pP.tables eE below (T18.setTop (mkF mM 74 Ls22 [(.int (2 : Int32)), (.int p4)])) _
    refine XS.iushr X18.here hx rfl (hb hby at_74) rfl ?_
    show Steps pP.tables eE below (T18.setTop (mkF mM 75 Ls22 [(.int ((p4.toUInt32 >>> ((2 : Int32) &&& 31).toUInt32).toInt32))])) _
    refine XS.iconst X18.here hx rfl (hb hby at_75) ?_
    show Steps pP.tables eE below (T18.setTop (mkF mM 76 Ls22 [(.int (3 : Int32)), (.int ((p4.toUInt32 >>> ((2 : Int32) &&& 31).toUInt32).toInt32))])) _
    refine XS.iand X18.here hx rfl (hb hby at_76) rfl ?_
    show Steps pP.tables eE below (T18.setTop (mkF mM 77 Ls22 [(.int (((p4.toUInt32 >>> ((2 : Int32) &&& 31).toUInt32).toInt32) &&& (3 : Int32)))])) _
    rw [eff]
    show Steps pP.tables eE below (T18.setTop (mkF mM 77 Ls22 [(.int (Int32.ofNat ff))])) _
    refine XS.iload X18.here hx rfl (hb hby at_77) rfl ?_
    show Steps pP.tables eE below (T18.setTop (mkF mM 79 Ls22 [(.int (Int32.ofNat tt)), (.int (Int32.ofNat ff))])) _
    refine XS.iconst X18.here hx rfl (hb hby at_79) ?_
    show Steps pP.tables eE below (T18.setTop (mkF mM 80 Ls22 [(.int (1 : Int32)), (.int (Int32.ofNat tt)), (.int (Int32.ofNat ff))])) _
    refine XS.iadd X18.here hx rfl (hb hby at_80) rfl ?_
    show Steps pP.tables eE below (T18.setTop (mkF mM 81 Ls22 [(.int ((Int32.ofNat tt) + (1 : Int32))), (.int (Int32.ofNat ff))])) _
    rw [own_inc tt]
    show Steps pP.tables eE below (T18.setTop (mkF mM 81 Ls22 [(.int (Int32.ofNat (tt + 1))), (.int (Int32.ofNat ff))])) _
    refine iremM X18 hx (g := (mkF mM 81 Ls22 [(.int (Int32.ofNat (tt + 1))), (.int (Int32.ofNat ff))])) rfl (hb hby at_81) rfl hnz ?_
    show Steps pP.tables eE below (T18.setTop (mkF mM 82 Ls22 [(.int ((Int32.ofNat ff) % (Int32.ofNat (tt + 1))))])) _
    rw [erem]
    show Steps pP.tables eE below (T18.setTop (mkF mM 82 Ls22 [(.int (Int32.ofNat f))])) _
    refine XS.istore X18.here hx rfl (hb hby at_82) rfl (l' := Ls23) rfl ?_
    exact kg)
  rcases own_and3c p5 with hk | hk | hk | hk
  · let Ls25 : Array Slot := #[.val (.int p0), .val (.int p1), .val (.int p2), .val (.int p3), .val (.int p4), .val (.int p5), .val (.ref b1), .val (.ref b10), .val (.int (own_dl p3)), .val (.int (Int32.ofNat tt)), .val (.int (Int32.ofNat f)), .val (.int (0 : Int32)), .unset, .unset, .unset]
    obtain ⟨T26, h26, X26, e26, E26, A26, D26, -, st26⟩ := newO X18 hx hZ hown (w_30 hw) (w_31 hw) (w_32 hw) e18 (g := (mkF mM 90 Ls25 [])) rfl (hb hby at_90) (by decide) (by decide)
    obtain ⟨b26, g26⟩ : ∃ z, z = T15.heap.size := ⟨_, rfl⟩
    rw [← g26] at A26 D26 st26
    have f27 := (f13.keep Kq15 (allS g_b10 all0))
    have g_b26 : n0 ≤ b26 := Nat.le_trans (own_osz f27) (Nat.le_of_eq g26.symm)
    have sz_b26 : h0.size ≤ b26 := Nat.le_trans K16.1 (Nat.le_of_eq g26.symm)
    have K28 : Keep h0 h26 [] := K16.ext E26
    have F_b26_m_sText : Fld Z h26 b26 "com/example/resultwire/resultwire/er7/Pieces" "m_sText" "Ljava/lang/String;" .null := D26 (Or.inr (w_38 hw)) (ty := (.object "java/lang/String")) (by decide)
    have F_b26_m_nDelimiter : Fld Z h26 b26 "com/example/resultwire/resultwire/er7/Pieces" "m_nDelimiter" "I" (.int (0 : Int32)) := D26 (Or.inr (w_40 hw)) (ty := .int) (by decide)
    have F_b26_m_nTo : Fld Z h26 b26 "com/example/resultwire/resultwire/er7/Pieces" "m_nTo" "I" (.int (0 : Int32)) := D26 (Or.inr (w_42 hw)) (ty := .int) (by decide)
    have F_b26_m_nFrom : Fld Z h26 b26 "com/example/resultwire/resultwire/er7/Pieces" "m_nFrom" "I" (.int (0 : Int32)) := D26 (Or.inl (w_44 hw)) (ty := .int) (by decide)
    have F_b26_m_nStart : Fld Z h26 b26 "com/example/resultwire/resultwire/er7/Pieces" "m_nStart" "I" (.int (0 : Int32)) := D26 (Or.inl (w_46 hw)) (ty := .int) (by decide)
    have F_b26_m_nEnd : Fld Z h26 b26 "com/example/resultwire/resultwire/er7/Pieces" "m_nEnd" "I" (.int (0 : Int32)) := D26 (Or.inl (w_48 hw)) (ty := .int) (by decide)
    have F_b26_m_nNumber : Fld Z h26 b26 "com/example/resultwire/resultwire/er7/Pieces" "m_nNumber" "I" (.int (0 : Int32)) := D26 (Or.inl (w_74 hw)) (ty := .int) (by decide)
    have f29 := (f27.ext E26)
    obtain ⟨_, _, ⟨T30, L30, k30, n30⟩, -, X30, ⟨Lc30, hQ30, l30, y30, z30⟩, st30⟩ := X26.specialBack hx (y := (⟨"com/example/resultwire/resultwire/er7/Pieces", "<init>", "(Ljava/lang/String;III)V"⟩ : MethodName)) rfl hown (mvT hZ (w_33 hw)) (mvT hZ (w_34 hw)) (mvT hZ (w_35 hw)) (by decide) (backOf (W := 1) (rm_pinit l Z a0 hw [] b26 b10 (own_dl p3) (Int32.ofNat f) (Int32.ofNat tt) .null (.int (0 : Int32)) (.int (0 : Int32)) (.int (0 : Int32)) (.int (0 : Int32)) (.int (0 : Int32)) h26 n0 f29 A26 F_b26_m_sText F_b26_m_nDelimiter F_b26_m_nTo F_b26_m_nFrom F_b26_m_nStart F_b26_m_nEnd F_b26_m_nNumber g_b26) hZ (w_35 hw) (w_32 hw) (by decide) (by decide)) (g := (mkF mM 102 Ls25 [(.int (Int32.ofNat tt)), (.int (Int32.ofNat f)), (.int (own_dl p3)), (.ref b10), (.ref b26), (.ref b26)])) rfl (by rw [hml]; rfl) (Steps.refl _) (a := b26) (argsL := [(.ref b10), (.int (own_dl p3)), (.int (Int32.ofNat f)), (.int (Int32.ofNat tt))]) (rest := [(.ref b26)]) (lenOf pd_8 rfl) rfl (by show 2 * 0 + _ ≤ _; exact Nat.le_of_eq rfl) (hb hby at_102) (fun _ _ => ⟨rfl, e26, (by decide : 4 + 0 ≤ _), (by decide : 17 + 0 ≤ _)⟩)
    dsimp only [Pt.U, Pt.locs, Pt.cells, Pt.slots] at X30 l30 y30 z30 st30 hQ30
    subst l30 y30 z30
    obtain ⟨rfl, Nq30, Kq30, q30_0, q30_1, q30_2, q30_3, q30_4, q30_5, q30_6, q30_7⟩ := hQ30
    have N30 := Fr.app N15 Nq30
    have K31 : Keep h0 T30.heap [] := K28.trans Kq30 (allS (Or.inr sz_b26) all0)
    let Ls32 : Array Slot := #[.val (.int p0), .val (.int p1), .val (.int p2), .val (.int p3), .val (.int p4), .val (.int p5), .val (.ref b1), .val (.ref b10), .val (.int (own_dl p3)), .val (.int (Int32.ofNat tt)), .val (.int (Int32.ofNat f)), .val (.int (0 : Int32)), .val (.ref b26), .unset, .unset]
    obtain ⟨T33, X33, e33, st33⟩ := own_to X30 (h := T30.heap) (g := (mkF mM 164 Ls32 [])) (g' := (mkF mM 226 Ls32 [(.int (own_fd (own_dl p3) (Int32.ofNat f) (Int32.ofNat tt) (p0 &&& (255 : Int32)) (p1 &&& (255 : Int32)) (p2 &&& (255 : Int32))))])) (by
      have pre35 : ∀ tg, Steps pP.tables eE below (T30.setTop (mkF mM 167 Ls32 [(.int (-1 : Int32)), (.int (own_dl p3))])) tg → Steps pP.tables eE below (T30.setTop (mkF mM 164 Ls32 [])) tg := fun tg kg => (by
        refine XS.iload X30.here hx rfl (hb hby at_164) rfl ?_
        show Steps pP.tables eE below (T30.setTop (mkF mM 166 Ls32 [(.int (own_dl p3))])) _
        refine XS.iconst X30.here hx rfl (hb hby at_166) ?_
        exact kg)
      by_cases hc34 : (own_dl p3) = (-1 : Int32)
      · refine ⟨T30, X30, rfl, fun tg kg => ?_⟩
        rw [show (own_fd (own_dl p3) (Int32.ofNat f) (Int32.ofNat tt) (p0 &&& (255 : Int32)) (p1 &&& (255 : Int32)) (p2 &&& (255 : Int32))) = (0 : Int32) from by rw [own_fd, if_pos hc34]] at kg
        refine pre35 tg ?_
        refine XS.icmpYes X30.here hx rfl (pc0 := 167) (pc' := 225) rfl (hb hby at_167) rfl (teq hc34).1 (by decide) (by decide) ?_
        show Steps pP.tables eE below (T30.setTop (mkF mM 225 Ls32 [])) _
        refine XS.iconst X30.here hx rfl (hb hby at_225) ?_
        exact kg
      · have f37 := (((f14.keep Kq15 (ninS (Nat.ne_of_lt (Nat.lt_of_lt_of_le (Nat.lt_of_lt_of_le (Nat.lt_of_lt_of_le (Nat.lt_of_lt_of_le (V1).lt (Nat.le_of_eq W4.size.symm)) (Nat.le_of_eq W6.size.symm)) (Nat.le_of_eq W8.size.symm)) (Nat.le_of_eq g10.symm))) nin0)).ext E26).keep Kq30 (ninS (Nat.ne_of_lt (Nat.lt_of_lt_of_le (Nat.lt_of_lt_of_le (Nat.lt_of_lt_of_le (Nat.lt_of_lt_of_le (Nat.lt_of_lt_of_le (Nat.lt_of_lt_of_le (V1).lt (Nat.le_of_eq W4.size.symm)) (Nat.le_of_eq W6.size.symm)) (Nat.le_of_eq W8.size.symm)) E10.1) Kq15.1) (Nat.le_of_eq g26.symm))) nin0))
        obtain ⟨cl36, Ar36, -, S36, Nn36, Hh36, -⟩ := id f37
        have hin36 : ¬ ((0 : Int32) < 0 ∨ cl36.slots.size ≤ ((0 : Int32)).toNatClampNeg) := inb_of S36 ⟨by decide, by decide⟩
        have hat36 : cl36.slots[((0 : Int32)).toNatClampNeg]? = some (.int (p0 &&& (255 : Int32))) := Hh36.at hin36 rfl
        have f38 := (f29.keep Kq30 (allS g_b26 all0))
        obtain ⟨_, _, ⟨T39, L39, k39, n39⟩, -, X39, ⟨Lc39, hQ39, l39, y39, z39⟩, st39⟩ := Jvm.LawKit.callS X30 hx (y := (⟨"com/example/resultwire/resultwire/er7/PiecesIsSplitPinLaw", "hit", "(CIIII)Z"⟩ : MethodName)) hown (mvT hZ (w_75 hw)) (mvT hZ (w_76 hw)) (mvT hZ (w_77 hw)) (mvT hZ (w_78 hw)) (by decide) (backOf (W := 0) (rm_hit l Z a0 hw [] (p0 &&& (255 : Int32)) (0 : Int32) (Int32.ofNat f) (Int32.ofNat tt) (own_dl p3) T30.heap n0 f38 ) hZ (w_78 hw) (w_77 hw) (by decide) (by decide)) (g := (mkF mM 181 Ls32 [(.int (own_dl p3)), (.int (Int32.ofNat tt)), (.int (Int32.ofNat f)), (.int (0 : Int32)), (.int (p0 &&& (255 : Int32)))])) rfl (by rw [hml]; rfl) (argsL := [(.int (p0 &&& (255 : Int32))), (.int (0 : Int32)), (.int (Int32.ofNat f)), (.int (Int32.ofNat tt)), (.int (own_dl p3))]) (rest := []) (lenOf pd_9 rfl) rfl (by show 2 * 0 + _ ≤ _; exact Nat.le_of_eq rfl) (hb hby at_181) (fun _ _ => ⟨rfl, rfl, (by decide : 4 + 0 ≤ _), (by decide : 17 + 0 ≤ _)⟩)
        dsimp only [Pt.U, Pt.locs, Pt.cells, Pt.slots] at X39 l39 y39 z39 st39 hQ39
        subst l39 y39 z39
        obtain ⟨rfl, rfl, Kq39⟩ := hQ39
        try rw [List.append_nil] at X39
        have pre41 : ∀ tg, Steps pP.tables eE below (T39.setTop (mkF mM 184 Ls32 [(.int (own_hit (p0 &&& (255 : Int32)) (0 : Int32) (Int32.ofNat f) (Int32.ofNat tt) (own_dl p3)))])) tg → Steps pP.tables eE below (T30.setTop (mkF mM 164 Ls32 [])) tg := fun tg kg => pre35 tg (by
          refine XS.icmpNo X30.here hx rfl (hb hby at_167) rfl (feq hc34).1 ?_
          show Steps pP.tables eE below (T30.setTop (mkF mM 170 Ls32 [])) _
          refine XS.aload X30.here hx rfl (hb hby at_170) rfl rfl ?_
          show Steps pP.tables eE below (T30.setTop (mkF mM 172 Ls32 [(.ref b1)])) _
          refine XS.iconst X30.here hx rfl (hb hby at_172) ?_
          show Steps pP.tables eE below (T30.setTop (mkF mM 173 Ls32 [(.int (0 : Int32)), (.ref b1)])) _
          refine X30.caload hx (j := (0 : Int32)) (v := (.int (p0 &&& (255 : Int32)))) (Ar36.1) (State.isArrayOf_alike hZ.alike Ar36.2.1) Ar36.2.2 hin36 hat36 (g := (mkF mM 173 Ls32 [(.int (0 : Int32)), (.ref b1)])) rfl rfl (hb hby at_173) _ ?_
          show Steps pP.tables eE below (T30.setTop (mkF mM 174 Ls32 [(.int (p0 &&& (255 : Int32)))])) _
          refine XS.iconst X30.here hx rfl (hb hby at_174) ?_
          show Steps pP.tables eE below (T30.setTop (mkF mM 175 Ls32 [(.int (0 : Int32)), (.int (p0 &&& (255 : Int32)))])) _
          refine XS.iload X30.here hx rfl (hb hby at_175) rfl ?_
          show Steps pP.tables eE below (T30.setTop (mkF mM 177 Ls32 [(.int (Int32.ofNat f)), (.int (0 : Int32)), (.int (p0 &&& (255 : Int32)))])) _
          refine XS.iload X30.here hx rfl (hb hby at_177) rfl ?_
          show Steps pP.tables eE below (T30.setTop (mkF mM 179 Ls32 [(.int (Int32.ofNat tt)), (.int (Int32.ofNat f)), (.int (0 : Int32)), (.int (p0 &&& (255 : Int32)))])) _
          refine XS.iload X30.here hx rfl (hb hby at_179) rfl ?_
          show Steps pP.tables eE below (T30.setTop (mkF mM 181 Ls32 [(.int (own_dl p3)), (.int (Int32.ofNat tt)), (.int (Int32.ofNat f)), (.int (0 : Int32)), (.int (p0 &&& (255 : Int32)))])) _
          refine st39 _ ?_
          exact kg)
        by_cases hc40 : (own_hit (p0 &&& (255 : Int32)) (0 : Int32) (Int32.ofNat f) (Int32.ofNat tt) (own_dl p3)) = (0 : Int32)
        · obtain ⟨cl42, Ar42, -, S42, Nn42, Hh42, -⟩ := id f37
          have hin42 : ¬ ((1 : Int32) < 0 ∨ cl42.slots.size ≤ ((1 : Int32)).toNatClampNeg) := inb_of S42 ⟨by decide, by decide⟩
          have hat42 : cl42.slots[((1 : Int32)).toNatClampNeg]? = some (.int (p1 &&& (255 : Int32))) := Hh42.at hin42 rfl
          obtain ⟨_, _, ⟨T43, L43, k43, n43⟩, -, X43, ⟨Lc43, hQ43, l43, y43, z43⟩, st43⟩ := Jvm.LawKit.callS X39 hx (y := (⟨"com/example/resultwire/resultwire/er7/PiecesIsSplitPinLaw", "hit", "(CIIII)Z"⟩ : MethodName)) hown (mvT hZ (w_75 hw)) (mvT hZ (w_76 hw)) (mvT hZ (w_77 hw)) (mvT hZ (w_78 hw)) (by decide) (backOf (W := 0) (rm_hit l Z a0 hw [] (p1 &&& (255 : Int32)) (1 : Int32) (Int32.ofNat f) (Int32.ofNat tt) (own_dl p3) T30.heap n0 f38 ) hZ (w_78 hw) (w_77 hw) (by decide) (by decide)) (g := (mkF mM 198 Ls32 [(.int (own_dl p3)), (.int (Int32.ofNat tt)), (.int (Int32.ofNat f)), (.int (1 : Int32)), (.int (p1 &&& (255 : Int32)))])) rfl (by rw [hml]; rfl) (argsL := [(.int (p1 &&& (255 : Int32))), (.int (1 : Int32)), (.int (Int32.ofNat f)), (.int (Int32.ofNat tt)), (.int (own_dl p3))]) (rest := []) (lenOf pd_9 rfl) rfl (by show 2 * 0 + _ ≤ _; exact Nat.le_of_eq rfl) (hb hby at_198) (fun _ _ => ⟨rfl, Kq39, (by decide : 4 + 0 ≤ _), (by decide : 17 + 0 ≤ _)⟩)
          dsimp only [Pt.U, Pt.locs, Pt.cells, Pt.slots] at X43 l43 y43 z43 st43 hQ43
          subst l43 y43 z43
          obtain ⟨rfl, rfl, Kq43⟩ := hQ43
          try rw [List.append_nil] at X43
          have pre45 : ∀ tg, Steps pP.tables eE below (T43.setTop (mkF mM 201 Ls32 [(.int (own_hit (p1 &&& (255 : Int32)) (1 : Int32) (Int32.ofNat f) (Int32.ofNat tt) (own_dl p3)))])) tg → Steps pP.tables eE below (T30.setTop (mkF mM 164 Ls32 [])) tg := fun tg kg => pre41 tg (by
            refine XS.ifNo X39.here hx rfl (hb hby at_184) rfl ((if0 _ _).trans (teq hc40).2) ?_
            show Steps pP.tables eE below (T39.setTop (mkF mM 187 Ls32 [])) _
            refine XS.aload X39.here hx rfl (hb hby at_187) rfl rfl ?_
            show Steps pP.tables eE below (T39.setTop (mkF mM 189 Ls32 [(.ref b1)])) _
            refine XS.iconst X39.here hx rfl (hb hby at_189) ?_
            show Steps pP.tables eE below (T39.setTop (mkF mM 190 Ls32 [(.int (1 : Int32)), (.ref b1)])) _
            refine X39.caload hx (j := (1 : Int32)) (v := (.int (p1 &&& (255 : Int32)))) (by rw [Kq39]; exact Ar42.1) (State.isArrayOf_alike hZ.alike Ar42.2.1) Ar42.2.2 hin42 hat42 (g := (mkF mM 190 Ls32 [(.int (1 : Int32)), (.ref b1)])) rfl rfl (hb hby at_190) _ ?_
            show Steps pP.tables eE below (T39.setTop (mkF mM 191 Ls32 [(.int (p1 &&& (255 : Int32)))])) _
            refine XS.iconst X39.here hx rfl (hb hby at_191) ?_
            show Steps pP.tables eE below (T39.setTop (mkF mM 192 Ls32 [(.int (1 : Int32)), (.int (p1 &&& (255 : Int32)))])) _
            refine XS.iload X39.here hx rfl (hb hby at_192) rfl ?_
            show Steps pP.tables eE below (T39.setTop (mkF mM 194 Ls32 [(.int (Int32.ofNat f)), (.int (1 : Int32)), (.int (p1 &&& (255 : Int32)))])) _
            refine XS.iload X39.here hx rfl (hb hby at_194) rfl ?_
            show Steps pP.tables eE below (T39.setTop (mkF mM 196 Ls32 [(.int (Int32.ofNat tt)), (.int (Int32.ofNat f)), (.int (1 : Int32)), (.int (p1 &&& (255 : Int32)))])) _
            refine XS.iload X39.here hx rfl (hb hby at_196) rfl ?_
            show Steps pP.tables eE below (T39.setTop (mkF mM 198 Ls32 [(.int (own_dl p3)), (.int (Int32.ofNat tt)), (.int (Int32.ofNat f)), (.int (1 : Int32)), (.int (p1 &&& (255 : Int32)))])) _
            refine st43 _ ?_
            exact kg)
          by_cases hc44 : (own_hit (p1 &&& (255 : Int32)) (1 : Int32) (Int32.ofNat f) (Int32.ofNat tt) (own_dl p3)) = (0 : Int32)
          · obtain ⟨cl46, Ar46, -, S46, Nn46, Hh46, -⟩ := id f37
            have hin46 : ¬ ((2 : Int32) < 0 ∨ cl46.slots.size ≤ ((2 : Int32)).toNatClampNeg) := inb_of S46 ⟨by decide, by decide⟩
            have hat46 : cl46.slots[((2 : Int32)).toNatClampNeg]? = some (.int (p2 &&& (255 : Int32))) := Hh46.at hin46 rfl
            obtain ⟨_, _, ⟨T47, L47, k47, n47⟩, -, X47, ⟨Lc47, hQ47, l47, y47, z47⟩, st47⟩ := Jvm.LawKit.callS X43 hx (y := (⟨"com/example/resultwire/resultwire/er7/PiecesIsSplitPinLaw", "hit", "(CIIII)Z"⟩ : MethodName)) hown (mvT hZ (w_75 hw)) (mvT hZ (w_76 hw)) (mvT hZ (w_77 hw)) (mvT hZ (w_78 hw)) (by decide) (backOf (W := 0) (rm_hit l Z a0 hw [] (p2 &&& (255 : Int32)) (2 : Int32) (Int32.ofNat f) (Int32.ofNat tt) (own_dl p3) T30.heap n0 f38 ) hZ (w_78 hw) (w_77 hw) (by decide) (by decide)) (g := (mkF mM 215 Ls32 [(.int (own_dl p3)), (.int (Int32.ofNat tt)), (.int (Int32.ofNat f)), (.int (2 : Int32)), (.int (p2 &&& (255 : Int32)))])) rfl (by rw [hml]; rfl) (argsL := [(.int (p2 &&& (255 : Int32))), (.int (2 : Int32)), (.int (Int32.ofNat f)), (.int (Int32.ofNat tt)), (.int (own_dl p3))]) (rest := []) (lenOf pd_9 rfl) rfl (by show 2 * 0 + _ ≤ _; exact Nat.le_of_eq rfl) (hb hby at_215) (fun _ _ => ⟨rfl, Kq43, (by decide : 4 + 0 ≤ _), (by decide : 17 + 0 ≤ _)⟩)
            dsimp only [Pt.U, Pt.locs, Pt.cells, Pt.slots] at X47 l47 y47 z47 st47 hQ47
            subst l47 y47 z47
            obtain ⟨rfl, rfl, Kq47⟩ := hQ47
            try rw [List.append_nil] at X47
            have pre49 : ∀ tg, Steps pP.tables eE below (T47.setTop (mkF mM 218 Ls32 [(.int (own_hit (p2 &&& (255 : Int32)) (2 : Int32) (Int32.ofNat f) (Int32.ofNat tt) (own_dl p3)))])) tg → Steps pP.tables eE below (T30.setTop (mkF mM 164 Ls32 [])) tg := fun tg kg => pre45 tg (by
              refine XS.ifNo X43.here hx rfl (hb hby at_201) rfl ((if0 _ _).trans (teq hc44).2) ?_
              show Steps pP.tables eE below (T43.setTop (mkF mM 204 Ls32 [])) _
              refine XS.aload X43.here hx rfl (hb hby at_204) rfl rfl ?_
              show Steps pP.tables eE below (T43.setTop (mkF mM 206 Ls32 [(.ref b1)])) _
              refine XS.iconst X43.here hx rfl (hb hby at_206) ?_
              show Steps pP.tables eE below (T43.setTop (mkF mM 207 Ls32 [(.int (2 : Int32)), (.ref b1)])) _
              refine X43.caload hx (j := (2 : Int32)) (v := (.int (p2 &&& (255 : Int32)))) (by rw [Kq43]; exact Ar46.1) (State.isArrayOf_alike hZ.alike Ar46.2.1) Ar46.2.2 hin46 hat46 (g := (mkF mM 207 Ls32 [(.int (2 : Int32)), (.ref b1)])) rfl rfl (hb hby at_207) _ ?_
              show Steps pP.tables eE below (T43.setTop (mkF mM 208 Ls32 [(.int (p2 &&& (255 : Int32)))])) _
              refine XS.iconst X43.here hx rfl (hb hby at_208) ?_
              show Steps pP.tables eE below (T43.setTop (mkF mM 209 Ls32 [(.int (2 : Int32)), (.int (p2 &&& (255 : Int32)))])) _
              refine XS.iload X43.here hx rfl (hb hby at_209) rfl ?_
              show Steps pP.tables eE below (T43.setTop (mkF mM 211 Ls32 [(.int (Int32.ofNat f)), (.int (2 : Int32)), (.int (p2 &&& (255 : Int32)))])) _
              refine XS.iload X43.here hx rfl (hb hby at_211) rfl ?_
              show Steps pP.tables eE below (T43.setTop (mkF mM 213 Ls32 [(.int (Int32.ofNat tt)), (.int (Int32.ofNat f)), (.int (2 : Int32)), (.int (p2 &&& (255 : Int32)))])) _
              refine XS.iload X43.here hx rfl (hb hby at_213) rfl ?_
              show Steps pP.tables eE below (T43.setTop (mkF mM 215 Ls32 [(.int (own_dl p3)), (.int (Int32.ofNat tt)), (.int (Int32.ofNat f)), (.int (2 : Int32)), (.int (p2 &&& (255 : Int32)))])) _
              refine st47 _ ?_
              exact kg)
            by_cases hc48 : (own_hit (p2 &&& (255 : Int32)) (2 : Int32) (Int32.ofNat f) (Int32.ofNat tt) (own_dl p3)) = (0 : Int32)
            · refine ⟨T47, X47, Kq47, fun tg kg => ?_⟩
              rw [show (own_fd (own_dl p3) (Int32.ofNat f) (Int32.ofNat tt) (p0 &&& (255 : Int32)) (p1 &&& (255 : Int32)) (p2 &&& (255 : Int32))) = (0 : Int32) from by rw [own_fd, if_neg hc34, if_pos hc40, if_pos hc44, if_pos hc48]] at kg
              refine pre49 tg ?_
              refine XS.ifYes X47.here hx rfl (pc0 := 218) (pc' := 225) rfl (hb hby at_218) rfl ((if0 _ _).trans (teq hc48).1) (by decide) (by decide) ?_
              show Steps pP.tables eE below (T47.setTop (mkF mM 225 Ls32 [])) _
              refine XS.iconst X47.here hx rfl (hb hby at_225) ?_
              exact kg
            · refine ⟨T47, X47, Kq47, fun tg kg => ?_⟩
              rw [show (own_fd (own_dl p3) (Int32.ofNat f) (Int32.ofNat tt) (p0 &&& (255 : Int32)) (p1 &&& (255 : Int32)) (p2 &&& (255 : Int32))) = (1 : Int32) from by rw [own_fd, if_neg hc34, if_pos hc40, if_pos hc44, if_neg hc48]] at kg
              refine pre49 tg ?_
              refine XS.ifNo X47.here hx rfl (hb hby at_218) rfl ((if0 _ _).trans (feq hc48).1) ?_
              show Steps pP.tables eE below (T47.setTop (mkF mM 221 Ls32 [])) _
              refine XS.iconst X47.here hx rfl (hb hby at_221) ?_
              show Steps pP.tables eE below (T47.setTop (mkF mM 222 Ls32 [(.int (1 : Int32))])) _
              refine XS.goto X47.here hx rfl (pc0 := 222) (pc' := 226) rfl (hb hby at_222) (by decide) (by decide) ?_
              exact kg
          · refine ⟨T43, X43, Kq43, fun tg kg => ?_⟩
            rw [show (own_fd (own_dl p3) (Int32.ofNat f) (Int32.ofNat tt) (p0 &&& (255 : Int32)) (p1 &&& (255 : Int32)) (p2 &&& (255 : Int32))) = (1 : Int32) from by rw [own_fd, if_neg hc34, if_pos hc40, if_neg hc44]] at kg
            refine pre45 tg ?_
            refine XS.ifYes X43.here hx rfl (pc0 := 201) (pc' := 221) rfl (hb hby at_201) rfl ((if0 _ _).trans (feq hc44).2) (by decide) (by decide) ?_
            show Steps pP.tables eE below (T43.setTop (mkF mM 221 Ls32 [])) _
            refine XS.iconst X43.here hx rfl (hb hby at_221) ?_
            show Steps pP.tables eE below (T43.setTop (mkF mM 222 Ls32 [(.int (1 : Int32))])) _
            refine XS.goto X43.here hx rfl (pc0 := 222) (pc' := 226) rfl (hb hby at_222) (by decide) (by decide) ?_
            exact kg
        · refine ⟨T39, X39, Kq39, fun tg kg => ?_⟩
          rw [show (own_fd (own_dl p3) (Int32.ofNat f) (Int32.ofNat tt) (p0 &&& (255 : Int32)) (p1 &&& (255 : Int32)) (p2 &&& (255 : Int32))) = (1 : Int32) from by rw [own_fd, if_neg hc34, if_neg hc40]] at kg
          refine pre41 tg ?_
          refine XS.ifYes X39.here hx rfl (pc0 := 184) (pc' := 221) rfl (hb hby at_184) rfl ((if0 _ _).trans (feq hc40).2) (by decide) (by decide) ?_
          show Steps pP.tables eE below (T39.setTop (mkF mM 221 Ls32 [])) _
          refine XS.iconst X39.here hx rfl (hb hby at_221) ?_
          show Steps pP.tables eE below (T39.setTop (mkF mM 222 Ls32 [(.int (1 : Int32))])) _
          refine XS.goto X39.here hx rfl (pc0 := 222) (pc' := 226) rfl (hb hby at_222) (by decide) (by decide) ?_
          exact kg)
    let Ls50 : Array Slot := #[.val (.int p0), .val (.int p1), .val (.int p2), .val (.int p3), .val (.int p4), .val (.int p5), .val (.ref b1), .val (.ref b10), .val (.int (own_dl p3)), .val (.int (Int32.ofNat tt)), .val (.int (Int32.ofNat f)), .val (.int (0 : Int32)), .val (.ref b26), .val (.int (own_fd (own_dl p3) (Int32.ofNat f) (Int32.ofNat tt) (p0 &&& (255 : Int32)) (p1 &&& (255 : Int32)) (p2 &&& (255 : Int32)))), .unset]
    let Ls51 : Array Slot := #[.val (.int p0), .val (.int p1), .val (.int p2), .val (.int p3), .val (.int p4), .val (.int p5), .val (.ref b1), .val (.ref b10), .val (.int (own_dl p3)), .val (.int (Int32.ofNat tt)), .val (.int (Int32.ofNat f)), .val (.int (0 : Int32)), .val (.ref b26), .val (.int (own_fd (own_dl p3) (Int32.ofNat f) (Int32.ofNat tt) (p0 &&& (255 : Int32)) (p1 &&& (255 : Int32)) (p2 &&& (255 : Int32)))), .val (.int (0 : Int32))]
    have f52 := (f29.keep Kq30 (allS g_b26 all0))
    obtain ⟨cq53, kq53, q53a, q53b, q53c⟩ := isOf hZ e33 q30_0
    obtain ⟨_, _, ⟨T53, L53, k53, n53⟩, -, X53, ⟨Lc53, hQ53, l53, y53, z53⟩, st53⟩ := X33.virtualBack hx (y := (⟨"com/example/resultwire/resultwire/er7/Pieces", "isSplit", "()Z"⟩ : MethodName)) (z := (⟨"com/example/resultwire/resultwire/er7/Pieces", "isSplit", "()Z"⟩ : MethodName)) hown (mvT hZ (w_79 hw)) (mvT hZ (w_80 hw)) (notFace_of_selects (args := #[]) (mvT hZ (w_82 hw))) (mvT hZ (w_82 hw)) (mvT hZ (w_81 hw)) (by decide) (backOf (W := 0) (rm_isp l Z a0 hw [] b26 (0 : Int32) (Int32.ofNat f) (Int32.ofNat tt) T30.heap n0 f52 q30_7 q30_5 q30_3) hZ (w_83 hw) (w_32 hw) (by decide) (by decide)) q53a q53c (g := (mkF mM 248 Ls51 [(.ref b26)])) rfl (by rw [hml]; rfl) (Steps.refl _) (argsL := []) (rest := []) (lenOf pd_3 rfl) rfl (by show 2 * 0 + _ ≤ _; exact Nat.le_of_eq rfl) (hb hby at_248) (fun _ _ => ⟨rfl, e33, (by decide : 4 + 0 ≤ _), (by decide : 17 + 0 ≤ _)⟩)
    dsimp only [Pt.U, Pt.locs, Pt.cells, Pt.slots] at X53 l53 y53 z53 st53 hQ53
    subst l53 y53 z53
    obtain ⟨rfl, rfl, Kq53⟩ := hQ53
    try rw [List.append_nil] at X53
    obtain ⟨fs, hr, hrun, hended, hW, hsame⟩ := X53.leave (v := some (.int (1 : Int32))) (fun h => by rw [Bd.returns] at h; cases h)
    refine ⟨_, _, pre24 _ ?_, hrun, hended, _, _, rfl, ?_, ⟨_, rfl⟩, hW, hsame.mono (by decide) (by decide)⟩
    · refine XS.iload X18.here hx rfl (hb hby at_84) rfl ?_
      show Steps pP.tables eE below (T18.setTop (mkF mM 86 Ls23 [(.int p5)])) _
      refine XS.iconst X18.here hx rfl (hb hby at_86) ?_
      show Steps pP.tables eE below (T18.setTop (mkF mM 87 Ls23 [(.int (3 : Int32)), (.int p5)])) _
      refine XS.iand X18.here hx rfl (hb hby at_87) rfl ?_
      show Steps pP.tables eE below (T18.setTop (mkF mM 88 Ls23 [(.int (p5 &&& (3 : Int32)))])) _
      rw [hk]
      show Steps pP.tables eE below (T18.setTop (mkF mM 88 Ls23 [(.int (0 : Int32))])) _
      refine XS.istore X18.here hx rfl (hb hby at_88) rfl (l' := Ls25) rfl ?_
      show Steps pP.tables eE below (T18.setTop (mkF mM 90 Ls25 [])) _
      refine st26 _ ?_
      show Steps pP.tables eE below (T26.setTop (mkF mM 93 Ls25 [(.ref b26)])) _
      refine XS.dup X26.here hx rfl (hb hby at_93) rfl rfl ?_
      show Steps pP.tables eE below (T26.setTop (mkF mM 94 Ls25 [(.ref b26), (.ref b26)])) _
      refine XS.aload X26.here hx rfl (hb hby at_94) rfl rfl ?_
      show Steps pP.tables eE below (T26.setTop (mkF mM 96 Ls25 [(.ref b10), (.ref b26), (.ref b26)])) _
      refine XS.iload X26.here hx rfl (hb hby at_96) rfl ?_
      show Steps pP.tables eE below (T26.setTop (mkF mM 98 Ls25 [(.int (own_dl p3)), (.ref b10), (.ref b26), (.ref b26)])) _
      refine XS.iload X26.here hx rfl (hb hby at_98) rfl ?_
      show Steps pP.tables eE below (T26.setTop (mkF mM 100 Ls25 [(.int (Int32.ofNat f)), (.int (own_dl p3)), (.ref b10), (.ref b26), (.ref b26)])) _
      refine XS.iload X26.here hx rfl (hb hby at_100) rfl ?_
      show Steps pP.tables eE below (T26.setTop (mkF mM 102 Ls25 [(.int (Int32.ofNat tt)), (.int (Int32.ofNat f)), (.int (own_dl p3)), (.ref b10), (.ref b26), (.ref b26)])) _
      refine st30.trans ?_
      show Steps pP.tables eE below (T30.setTop (mkF mM 105 Ls25 [(.ref b26)])) _
      refine XS.astore X30.here hx rfl (hb hby at_105) rfl rfl (l' := Ls32) rfl ?_
      show Steps pP.tables eE below (T30.setTop (mkF mM 107 Ls32 [])) _
      refine XS.iload X30.here hx rfl (hb hby at_107) rfl ?_
      show Steps pP.tables eE below (T30.setTop (mkF mM 109 Ls32 [(.int (0 : Int32))])) _
      refine XS.iconst X30.here hx rfl (hb hby at_109) ?_
      show Steps pP.tables eE below (T30.setTop (mkF mM 110 Ls32 [(.int (1 : Int32)), (.int (0 : Int32))])) _
      refine XS.icmpYes X30.here hx rfl (pc0 := 110) (pc' := 126) rfl (hb hby at_110) rfl (tlt (by decide : (0 : Int32) < (1 : Int32))).1 (by decide) (by decide) ?_
      show Steps pP.tables eE below (T30.setTop (mkF mM 126 Ls32 [])) _
      refine XS.iload X30.here hx rfl (hb hby at_126) rfl ?_
      show Steps pP.tables eE below (T30.setTop (mkF mM 128 Ls32 [(.int (0 : Int32))])) _
      refine XS.iconst X30.here hx rfl (hb hby at_128) ?_
      show Steps pP.tables eE below (T30.setTop (mkF mM 129 Ls32 [(.int (2 : Int32)), (.int (0 : Int32))])) _
      refine XS.icmpYes X30.here hx rfl (pc0 := 129) (pc' := 145) rfl (hb hby at_129) rfl (tlt (by decide : (0 : Int32) < (2 : Int32))).1 (by decide) (by decide) ?_
      show Steps pP.tables eE below (T30.setTop (mkF mM 145 Ls32 [])) _
      refine XS.iload X30.here hx rfl (hb hby at_145) rfl ?_
      show Steps pP.tables eE below (T30.setTop (mkF mM 147 Ls32 [(.int (0 : Int32))])) _
      refine XS.iconst X30.here hx rfl (hb hby at_147) ?_
      show Steps pP.tables eE below (T30.setTop (mkF mM 148 Ls32 [(.int (3 : Int32)), (.int (0 : Int32))])) _
      refine XS.icmpYes X30.here hx rfl (pc0 := 148) (pc' := 164) rfl (hb hby at_148) rfl (tlt (by decide : (0 : Int32) < (3 : Int32))).1 (by decide) (by decide) ?_
      show Steps pP.tables eE below (T30.setTop (mkF mM 164 Ls32 [])) _
      refine st33 _ ?_
      show Steps pP.tables eE below (T33.setTop (mkF mM 226 Ls32 [(.int (own_fd (own_dl p3) (Int32.ofNat f) (Int32.ofNat tt) (p0 &&& (255 : Int32)) (p1 &&& (255 : Int32)) (p2 &&& (255 : Int32))))])) _
      refine XS.istore X33.here hx rfl (hb hby at_226) rfl (l' := Ls50) rfl ?_
      show Steps pP.tables eE below (T33.setTop (mkF mM 228 Ls50 [])) _
      refine XS.iload X33.here hx rfl (hb hby at_228) rfl ?_
      show Steps pP.tables eE below (T33.setTop (mkF mM 230 Ls50 [(.int (0 : Int32))])) _
      refine XS.iconst X33.here hx rfl (hb hby at_230) ?_
      show Steps pP.tables eE below (T33.setTop (mkF mM 231 Ls50 [(.int (1 : Int32)), (.int (0 : Int32))])) _
      refine XS.icmpYes X33.here hx rfl (pc0 := 231) (pc' := 243) rfl (hb hby at_231) rfl (tlt (by decide : (0 : Int32) < (1 : Int32))).1 (by decide) (by decide) ?_
      show Steps pP.tables eE below (T33.setTop (mkF mM 243 Ls50 [])) _
      refine XS.iconst X33.here hx rfl (hb hby at_243) ?_
      show Steps pP.tables eE below (T33.setTop (mkF mM 244 Ls50 [(.int (0 : Int32))])) _
      refine XS.istore X33.here hx rfl (hb hby at_244) rfl (l' := Ls51) rfl ?_
      show Steps pP.tables eE below (T33.setTop (mkF mM 246 Ls51 [])) _
      refine XS.aload X33.here hx rfl (hb hby at_246) rfl rfl ?_
      show Steps pP.tables eE below (T33.setTop (mkF mM 248 Ls51 [(.ref b26)])) _
      refine st53.trans ?_
      show Steps pP.tables eE below (T53.setTop (mkF mM 251 Ls51 [(.int (own_is (0 : Int32) (Int32.ofNat f) (Int32.ofNat tt)))])) _
      refine XS.iload X53.here hx rfl (hb hby at_251) rfl ?_
      show Steps pP.tables eE below (T53.setTop (mkF mM 253 Ls51 [(.int (0 : Int32)), (.int (own_is (0 : Int32) (Int32.ofNat f) (Int32.ofNat tt)))])) _
      refine XS.icmpNo X53.here hx rfl (hb hby at_253) rfl (teq (own_is0 _ _)).2 ?_
      show Steps pP.tables eE below (T53.setTop (mkF mM 256 Ls51 [])) _
      refine XS.iconst X53.here hx rfl (hb hby at_256) ?_
      show Steps pP.tables eE below (T53.setTop (mkF mM 257 Ls51 [(.int (1 : Int32))])) _
      refine XS.goto X53.here hx rfl (pc0 := 257) (pc' := 261) rfl (hb hby at_257) (by decide) (by decide) ?_
      show Steps pP.tables eE below (T53.setTop (mkF mM 261 Ls51 [(.int (1 : Int32))])) _
      exact retN X53 hx (t := .boolean) Bd.returns (by simp) (hb hby at_261) hr
    · show Q_law Z p0 p1 p2 p3 p4 p5 zc fm h0 n0 _ T53.heap _
      rw [Kq53]
      exact ⟨rfl, N30, K31⟩
  · let Ls55 : Array Slot := #[.val (.int p0), .val (.int p1), .val (.int p2), .val (.int p3), .val (.int p4), .val (.int p5), .val (.ref b1), .val (.ref b10), .val (.int (own_dl p3)), .val (.int (Int32.ofNat tt)), .val (.int (Int32.ofNat f)), .val (.int (1 : Int32)), .unset, .unset, .unset]
    obtain ⟨T56, h56, X56, e56, E56, A56, D56, -, st56⟩ := newO X18 hx hZ hown (w_30 hw) (w_31 hw) (w_32 hw) e18 (g := (mkF mM 90 Ls55 [])) rfl (hb hby at_90) (by decide) (by decide)
    obtain ⟨b56, g56⟩ : ∃ z, z = T15.heap.size := ⟨_, rfl⟩
    rw [← g56] at A56 D56 st56
    have f57 := (f13.keep Kq15 (allS g_b10 all0))
    have g_b56 : n0 ≤ b56 := Nat.le_trans (own_osz f57) (Nat.le_of_eq g56.symm)
    have sz_b56 : h0.size ≤ b56 := Nat.le_trans K16.1 (Nat.le_of_eq g56.symm)
    have K58 : Keep h0 h56 [] := K16.ext E56
    have F_b56_m_sText : Fld Z h56 b56 "com/example/resultwire/resultwire/er7/Pieces" "m_sText" "Ljava/lang/String;" .null := D56 (Or.inr (w_38 hw)) (ty := (.object "java/lang/String")) (by decide)
    have F_b56_m_nDelimiter : Fld Z h56 b56 "com/example/resultwire/resultwire/er7/Pieces" "m_nDelimiter" "I" (.int (0 : Int32)) := D56 (Or.inr (w_40 hw)) (ty := .int) (by decide)
    have F_b56_m_nTo : Fld Z h56 b56 "com/example/resultwire/resultwire/er7/Pieces" "m_nTo" "I" (.int (0 : Int32)) := D56 (Or.inr (w_42 hw)) (ty := .int) (by decide)
    have F_b56_m_nFrom : Fld Z h56 b56 "com/example/resultwire/resultwire/er7/Pieces" "m_nFrom" "I" (.int (0 : Int32)) := D56 (Or.inl (w_44 hw)) (ty := .int) (by decide)
    have F_b56_m_nStart : Fld Z h56 b56 "com/example/resultwire/resultwire/er7/Pieces" "m_nStart" "I" (.int (0 : Int32)) := D56 (Or.inl (w_46 hw)) (ty := .int) (by decide)
    have F_b56_m_nEnd : Fld Z h56 b56 "com/example/resultwire/resultwire/er7/Pieces" "m_nEnd" "I" (.int (0 : Int32)) := D56 (Or.inl (w_48 hw)) (ty := .int) (by decide)
    have F_b56_m_nNumber : Fld Z h56 b56 "com/example/resultwire/resultwire/er7/Pieces" "m_nNumber" "I" (.int (0 : Int32)) := D56 (Or.inl (w_74 hw)) (ty := .int) (by decide)
    have f59 := (f57.ext E56)
    obtain ⟨_, _, ⟨T60, L60, k60, n60⟩, -, X60, ⟨Lc60, hQ60, l60, y60, z60⟩, st60⟩ := X56.specialBack hx (y := (⟨"com/example/resultwire/resultwire/er7/Pieces", "<init>", "(Ljava/lang/String;III)V"⟩ : MethodName)) rfl hown (mvT hZ (w_33 hw)) (mvT hZ (w_34 hw)) (mvT hZ (w_35 hw)) (by decide) (backOf (W := 1) (rm_pinit l Z a0 hw [] b56 b10 (own_dl p3) (Int32.ofNat f) (Int32.ofNat tt) .null (.int (0 : Int32)) (.int (0 : Int32)) (.int (0 : Int32)) (.int (0 : Int32)) (.int (0 : Int32)) h56 n0 f59 A56 F_b56_m_sText F_b56_m_nDelimiter F_b56_m_nTo F_b56_m_nFrom F_b56_m_nStart F_b56_m_nEnd F_b56_m_nNumber g_b56) hZ (w_35 hw) (w_32 hw) (by decide) (by decide)) (g := (mkF mM 102 Ls55 [(.int (Int32.ofNat tt)), (.int (Int32.ofNat f)), (.int (own_dl p3)), (.ref b10), (.ref b56), (.ref b56)])) rfl (by rw [hml]; rfl) (Steps.refl _) (a := b56) (argsL := [(.ref b10), (.int (own_dl p3)), (.int (Int32.ofNat f)), (.int (Int32.ofNat tt))]) (rest := [(.ref b56)]) (lenOf pd_8 rfl) rfl (by show 2 * 0 + _ ≤ _; exact Nat.le_of_eq rfl) (hb hby at_102) (fun _ _ => ⟨rfl, e56, (by decide : 4 + 0 ≤ _), (by decide : 17 + 0 ≤ _)⟩)
    dsimp only [Pt.U, Pt.locs, Pt.cells, Pt.slots] at X60 l60 y60 z60 st60 hQ60
    subst l60 y60 z60
    obtain ⟨rfl, Nq60, Kq60, q60_0, q60_1, q60_2, q60_3, q60_4, q60_5, q60_6, q60_7⟩ := hQ60
    have N60 := Fr.app N15 Nq60
    have K61 : Keep h0 T60.heap [] := K58.trans Kq60 (allS (Or.inr sz_b56) all0)
    let Ls62 : Array Slot := #[.val (.int p0), .val (.int p1), .val (.int p2), .val (.int p3), .val (.int p4), .val (.int p5), .val (.ref b1), .val (.ref b10), .val (.int (own_dl p3)), .val (.int (Int32.ofNat tt)), .val (.int (Int32.ofNat f)), .val (.int (1 : Int32)), .val (.ref b56), .unset, .unset]
    have f63 := (f59.keep Kq60 (allS g_b56 all0))
    obtain ⟨cq64, kq64, q64a, q64b, q64c⟩ := isOf hZ rfl q60_0
    obtain ⟨_, _, ⟨T64, L64, k64, n64⟩, -, X64, ⟨Lc64, hQ64, l64, y64, z64⟩, st64⟩ := X60.virtualBack hx (y := (⟨"com/example/resultwire/resultwire/er7/Pieces", "hasNext", "()Z"⟩ : MethodName)) (z := (⟨"com/example/resultwire/resultwire/er7/Pieces", "hasNext", "()Z"⟩ : MethodName)) hown (mvT hZ (w_49 hw)) (mvT hZ (w_50 hw)) (notFace_of_selects (args := #[]) (mvT hZ (w_52 hw))) (mvT hZ (w_52 hw)) (mvT hZ (w_51 hw)) (by decide) (backOf (W := 0) (rm_hn l Z a0 hw [] b56 (Int32.ofNat f) (Int32.ofNat tt) T60.heap n0 f63 q60_4 q60_3) hZ (w_53 hw) (w_32 hw) (by decide) (by decide)) q64a q64c (g := (mkF mM 115 Ls62 [(.ref b56)])) rfl (by rw [hml]; rfl) (Steps.refl _) (argsL := []) (rest := []) (lenOf pd_3 rfl) rfl (by show 2 * 0 + _ ≤ _; exact Nat.le_of_eq rfl) (hb hby at_115) (fun _ _ => ⟨rfl, rfl, (by decide : 4 + 0 ≤ _), (by decide : 17 + 0 ≤ _)⟩)
    dsimp only [Pt.U, Pt.locs, Pt.cells, Pt.slots] at X64 l64 y64 z64 st64 hQ64
    subst l64 y64 z64
    obtain ⟨rfl, rfl, Kq64⟩ := hQ64
    try rw [List.append_nil] at X64
    have f65 := (((Sq15).1.ext E56).keep Kq60)
    have f66 := (((Sq15).2.1.ext E56).keep Kq60 (ninS (Nat.ne_of_lt (Nat.lt_of_lt_of_le ((Sq15).1).lt (Nat.le_of_eq g56.symm))) nin0))
    have f67 := (((Sq15).2.2.1.ext E56).keep Kq60 (ninS (Nat.ne_of_lt (Nat.lt_of_lt_of_le ((Sq15).1).lt (Nat.le_of_eq g56.symm))) nin0))
    have f68 := (((Sq15).2.2.2.1.ext E56).keep Kq60 (ninS (Nat.ne_of_lt (Nat.lt_of_lt_of_le ((Sq15).2.2.2.1).lt (Nat.le_of_eq g56.symm))) nin0))
    obtain ⟨cq69, kq69, q69a, q69b, q69c⟩ := isOf hZ Kq64 q60_0
    obtain ⟨_, _, ⟨T69, L69, k69, n69⟩, -, X69, ⟨Lc69, hQ69, l69, y69, z69⟩, st69⟩ := X64.virtualBack hx (y := (⟨"com/example/resultwire/resultwire/er7/Pieces", "advance", "()V"⟩ : MethodName)) (z := (⟨"com/example/resultwire/resultwire/er7/Pieces", "advance", "()V"⟩ : MethodName)) hown (mvT hZ (w_54 hw)) (mvT hZ (w_55 hw)) (notFace_of_selects (args := #[]) (mvT hZ (w_57 hw))) (mvT hZ (w_57 hw)) (mvT hZ (w_56 hw)) (by decide) (backOf (W := 0) (rm_adv l Z a0 hw [] b56 b10 t15 kb15 ([(p0 &&& (255 : Int32)), (p1 &&& (255 : Int32)), (p2 &&& (255 : Int32))]) (own_dl p3) f tt zc fm (0 : Int32) (.int (Int32.ofNat f)) (.int (Int32.ofNat f)) T60.heap n0 f63 q60_0 q60_1 q60_2 q60_3 q60_4 q60_6 q60_5 q60_7 g_b56 (⟨f65, f66, f67, f68, (Sq15).2.2.2.2⟩ : own_Str Z T60.heap b10 t15 kb15 [(p0 &&& (255 : Int32)), (p1 &&& (255 : Int32)), (p2 &&& (255 : Int32))]) (by omega : f ≤ tt) (by omega : tt ≤ [(p0 &&& (255 : Int32)), (p1 &&& (255 : Int32)), (p2 &&& (255 : Int32))].length) (Nat.ne_of_lt (Nat.lt_of_lt_of_le ((Sq15).1).lt (Nat.le_of_eq g56.symm))) (Nat.ne_of_lt (Nat.lt_of_lt_of_le ((Sq15).2.2.2.1).lt (Nat.le_of_eq g56.symm))) S_COMPACT_STRINGS hp1 S_SIOOBE_FORMATTER hp3) hZ (w_58 hw) (w_32 hw) (by decide) (by decide)) q69a q69c (g := (mkF mM 123 Ls62 [(.ref b56)])) rfl (by rw [hml]; rfl) (Steps.refl _) (argsL := []) (rest := []) (lenOf pd_10 rfl) rfl (by show 2 * 0 + _ ≤ _; exact Nat.le_of_eq rfl) (hb hby at_123) (fun _ _ => ⟨rfl, Kq64, (by decide : 4 + 0 ≤ _), (by decide : 17 + 0 ≤ _)⟩)
    dsimp only [Pt.U, Pt.locs, Pt.cells, Pt.slots] at X69 l69 y69 z69 st69 hQ69
    subst l69 y69 z69
    obtain ⟨rfl, Nq69, Kq69, q69_0, q69_1, q69_2, q69_3, q69_4, q69_5, q69_6, q69_7⟩ := hQ69
    have N69 := Fr.app N60 Nq69
    have K70 : Keep h0 T69.heap [] := K61.trans Kq69 (allS (Or.inr sz_b56) all0)
    obtain ⟨T71, X71, e71, st71⟩ := own_to X69 (h := T69.heap) (g := (mkF mM 164 Ls62 [])) (g' := (mkF mM 226 Ls62 [(.int (own_fd (own_dl p3) (Int32.ofNat f) (Int32.ofNat tt) (p0 &&& (255 : Int32)) (p1 &&& (255 : Int32)) (p2 &&& (255 : Int32))))])) (by
      have pre73 : ∀ tg, Steps pP.tables eE below (T69.setTop (mkF mM 167 Ls62 [(.int (-1 : Int32)), (.int (own_dl p3))])) tg → Steps pP.tables eE below (T69.setTop (mkF mM 164 Ls62 [])) tg := fun tg kg => (by
        refine XS.iload X69.here hx rfl (hb hby at_164) rfl ?_
        show Steps pP.tables eE below (T69.setTop (mkF mM 166 Ls62 [(.int (own_dl p3))])) _
        refine XS.iconst X69.here hx rfl (hb hby at_166) ?_
        exact kg)
      by_cases hc72 : (own_dl p3) = (-1 : Int32)
      · refine ⟨T69, X69, rfl, fun tg kg => ?_⟩
        rw [show (own_fd (own_dl p3) (Int32.ofNat f) (Int32.ofNat tt) (p0 &&& (255 : Int32)) (p1 &&& (255 : Int32)) (p2 &&& (255 : Int32))) = (0 : Int32) from by rw [own_fd, if_pos hc72]] at kg
        refine pre73 tg ?_
        refine XS.icmpYes X69.here hx rfl (pc0 := 167) (pc' := 225) rfl (hb hby at_167) rfl (teq hc72).1 (by decide) (by decide) ?_
        show Steps pP.tables eE below (T69.setTop (mkF mM 225 Ls62 [])) _
        refine XS.iconst X69.here hx rfl (hb hby at_225) ?_
        exact kg
      · have f75 := ((((f14.keep Kq15 (ninS (Nat.ne_of_lt (Nat.lt_of_lt_of_le (Nat.lt_of_lt_of_le (Nat.lt_of_lt_of_le (Nat.lt_of_lt_of_le (V1).lt (Nat.le_of_eq W4.size.symm)) (Nat.le_of_eq W6.size.symm)) (Nat.le_of_eq W8.size.symm)) (Nat.le_of_eq g10.symm))) nin0)).ext E56).keep Kq60 (ninS (Nat.ne_of_lt (Nat.lt_of_lt_of_le (Nat.lt_of_lt_of_le (Nat.lt_of_lt_of_le (Nat.lt_of_lt_of_le (Nat.lt_of_lt_of_le (Nat.lt_of_lt_of_le (V1).lt (Nat.le_of_eq W4.size.symm)) (Nat.le_of_eq W6.size.symm)) (Nat.le_of_eq W8.size.symm)) E10.1) Kq15.1) (Nat.le_of_eq g56.symm))) nin0)).keep Kq69 (ninS (Nat.ne_of_lt (Nat.lt_of_lt_of_le (Nat.lt_of_lt_of_le (Nat.lt_of_lt_of_le (Nat.lt_of_lt_of_le (Nat.lt_of_lt_of_le (Nat.lt_of_lt_of_le (V1).lt (Nat.le_of_eq W4.size.symm)) (Nat.le_of_eq W6.size.symm)) (Nat.le_of_eq W8.size.symm)) E10.1) Kq15.1) (Nat.le_of_eq g56.symm))) nin0))
        obtain ⟨cl74, Ar74, -, S74, Nn74, Hh74, -⟩ := id f75
        have hin74 : ¬ ((0 : Int32) < 0 ∨ cl74.slots.size ≤ ((0 : Int32)).toNatClampNeg) := inb_of S74 ⟨by decide, by decide⟩
        have hat74 : cl74.slots[((0 : Int32)).toNatClampNeg]? = some (.int (p0 &&& (255 : Int32))) := Hh74.at hin74 rfl
        have f76 := (f63.keep Kq69 (allS g_b56 all0))
        obtain ⟨_, _, ⟨T77, L77, k77, n77⟩, -, X77, ⟨Lc77, hQ77, l77, y77, z77⟩, st77⟩ := Jvm.LawKit.callS X69 hx (y := (⟨"com/example/resultwire/resultwire/er7/PiecesIsSplitPinLaw", "hit", "(CIIII)Z"⟩ : MethodName)) hown (mvT hZ (w_75 hw)) (mvT hZ (w_76 hw)) (mvT hZ (w_77 hw)) (mvT hZ (w_78 hw)) (by decide) (backOf (W := 0) (rm_hit l Z a0 hw [] (p0 &&& (255 : Int32)) (0 : Int32) (Int32.ofNat f) (Int32.ofNat tt) (own_dl p3) T69.heap n0 f76 ) hZ (w_78 hw) (w_77 hw) (by decide) (by decide)) (g := (mkF mM 181 Ls62 [(.int (own_dl p3)), (.int (Int32.ofNat tt)), (.int (Int32.ofNat f)), (.int (0 : Int32)), (.int (p0 &&& (255 : Int32)))])) rfl (by rw [hml]; rfl) (argsL := [(.int (p0 &&& (255 : Int32))), (.int (0 : Int32)), (.int (Int32.ofNat f)), (.int (Int32.ofNat tt)), (.int (own_dl p3))]) (rest := []) (lenOf pd_9 rfl) rfl (by show 2 * 0 + _ ≤ _; exact Nat.le_of_eq rfl) (hb hby at_181) (fun _ _ => ⟨rfl, rfl, (by decide : 4 + 0 ≤ _), (by decide : 17 + 0 ≤ _)⟩)
        dsimp only [Pt.U, Pt.locs, Pt.cells, Pt.slots] at X77 l77 y77 z77 st77 hQ77
        subst l77 y77 z77
        obtain ⟨rfl, rfl, Kq77⟩ := hQ77
        try rw [List.append_nil] at X77
        have pre79 : ∀ tg, Steps pP.tables eE below (T77.setTop (mkF mM 184 Ls62 [(.int (own_hit (p0 &&& (255 : Int32)) (0 : Int32) (Int32.ofNat f) (Int32.ofNat tt) (own_dl p3)))])) tg → Steps pP.tables eE below (T69.setTop (mkF mM 164 Ls62 [])) tg := fun tg kg => pre73 tg (by
          refine XS.icmpNo X69.here hx rfl (hb hby at_167) rfl (feq hc72).1 ?_
          show Steps pP.tables eE below (T69.setTop (mkF mM 170 Ls62 [])) _
          refine XS.aload X69.here hx rfl (hb hby at_170) rfl rfl ?_
          show Steps pP.tables eE below (T69.setTop (mkF mM 172 Ls62 [(.ref b1)])) _
          refine XS.iconst X69.here hx rfl (hb hby at_172) ?_
          show Steps pP.tables eE below (T69.setTop (mkF mM 173 Ls62 [(.int (0 : Int32)), (.ref b1)])) _
          refine X69.caload hx (j := (0 : Int32)) (v := (.int (p0 &&& (255 : Int32)))) (Ar74.1) (State.isArrayOf_alike hZ.alike Ar74.2.1) Ar74.2.2 hin74 hat74 (g := (mkF mM 173 Ls62 [(.int (0 : Int32)), (.ref b1)])) rfl rfl (hb hby at_173) _ ?_
          show Steps pP.tables eE below (T69.setTop (mkF mM 174 Ls62 [(.int (p0 &&& (255 : Int32)))])) _
          refine XS.iconst X69.here hx rfl (hb hby at_174) ?_
          show Steps pP.tables eE below (T69.setTop (mkF mM 175 Ls62 [(.int (0 : Int32)), (.int (p0 &&& (255 : Int32)))])) _
          refine XS.iload X69.here hx rfl (hb hby at_175) rfl ?_
          show Steps pP.tables eE below (T69.setTop (mkF mM 177 Ls62 [(.int (Int32.ofNat f)), (.int (0 : Int32)), (.int (p0 &&& (255 : Int32)))])) _
          refine XS.iload X69.here hx rfl (hb hby at_177) rfl ?_
          show Steps pP.tables eE below (T69.setTop (mkF mM 179 Ls62 [(.int (Int32.ofNat tt)), (.int (Int32.ofNat f)), (.int (0 : Int32)), (.int (p0 &&& (255 : Int32)))])) _
          refine XS.iload X69.here hx rfl (hb hby at_179) rfl ?_
          show Steps pP.tables eE below (T69.setTop (mkF mM 181 Ls62 [(.int (own_dl p3)), (.int (Int32.ofNat tt)), (.int (Int32.ofNat f)), (.int (0 : Int32)), (.int (p0 &&& (255 : Int32)))])) _
          refine st77 _ ?_
          exact kg)
        by_cases hc78 : (own_hit (p0 &&& (255 : Int32)) (0 : Int32) (Int32.ofNat f) (Int32.ofNat tt) (own_dl p3)) = (0 : Int32)
        · obtain ⟨cl80, Ar80, -, S80, Nn80, Hh80, -⟩ := id f75
          have hin80 : ¬ ((1 : Int32) < 0 ∨ cl80.slots.size ≤ ((1 : Int32)).toNatClampNeg) := inb_of S80 ⟨by decide, by decide⟩
          have hat80 : cl80.slots[((1 : Int32)).toNatClampNeg]? = some (.int (p1 &&& (255 : Int32))) := Hh80.at hin80 rfl
          obtain ⟨_, _, ⟨T81, L81, k81, n81⟩, -, X81, ⟨Lc81, hQ81, l81, y81, z81⟩, st81⟩ := Jvm.LawKit.callS X77 hx (y := (⟨"com/example/resultwire/resultwire/er7/PiecesIsSplitPinLaw", "hit", "(CIIII)Z"⟩ : MethodName)) hown (mvT hZ (w_75 hw)) (mvT hZ (w_76 hw)) (mvT hZ (w_77 hw)) (mvT hZ (w_78 hw)) (by decide) (backOf (W := 0) (rm_hit l Z a0 hw [] (p1 &&& (255 : Int32)) (1 : Int32) (Int32.ofNat f) (Int32.ofNat tt) (own_dl p3) T69.heap n0 f76 ) hZ (w_78 hw) (w_77 hw) (by decide) (by decide)) (g := (mkF mM 198 Ls62 [(.int (own_dl p3)), (.int (Int32.ofNat tt)), (.int (Int32.ofNat f)), (.int (1 : Int32)), (.int (p1 &&& (255 : Int32)))])) rfl (by rw [hml]; rfl) (argsL := [(.int (p1 &&& (255 : Int32))), (.int (1 : Int32)), (.int (Int32.ofNat f)), (.int (Int32.ofNat tt)), (.int (own_dl p3))]) (rest := []) (lenOf pd_9 rfl) rfl (by show 2 * 0 + _ ≤ _; exact Nat.le_of_eq rfl) (hb hby at_198) (fun _ _ => ⟨rfl, Kq77, (by decide : 4 + 0 ≤ _), (by decide : 17 + 0 ≤ _)⟩)
          dsimp only [Pt.U, Pt.locs, Pt.cells, Pt.slots] at X81 l81 y81 z81 st81 hQ81
          subst l81 y81 z81
          obtain ⟨rfl, rfl, Kq81⟩ := hQ81
          try rw [List.append_nil] at X81
          have pre83 : ∀ tg, Steps pP.tables eE below (T81.setTop (mkF mM 201 Ls62 [(.int (own_hit (p1 &&& (255 : Int32)) (1 : Int32) (Int32.ofNat f) (Int32.ofNat tt) (own_dl p3)))])) tg → Steps pP.tables eE below (T69.setTop (mkF mM 164 Ls62 [])) tg := fun tg kg => pre79 tg (by
            refine XS.ifNo X77.here hx rfl (hb hby at_184) rfl ((if0 _ _).trans (teq hc78).2) ?_
            show Steps pP.tables eE below (T77.setTop (mkF mM 187 Ls62 [])) _
            refine XS.aload X77.here hx rfl (hb hby at_187) rfl rfl ?_
            show Steps pP.tables eE below (T77.setTop (mkF mM 189 Ls62 [(.ref b1)])) _
            refine XS.iconst X77.here hx rfl (hb hby at_189) ?_
            show Steps pP.tables eE below (T77.setTop (mkF mM 190 Ls62 [(.int (1 : Int32)), (.ref b1)])) _
            refine X77.caload hx (j := (1 : Int32)) (v := (.int (p1 &&& (255 : Int32)))) (by rw [Kq77]; exact Ar80.1) (State.isArrayOf_alike hZ.alike Ar80.2.1) Ar80.2.2 hin80 hat80 (g := (mkF mM 190 Ls62 [(.int (1 : Int32)), (.ref b1)])) rfl rfl (hb hby at_190) _ ?_
            show Steps pP.tables eE below (T77.setTop (mkF mM 191 Ls62 [(.int (p1 &&& (255 : Int32)))])) _
            refine XS.iconst X77.here hx rfl (hb hby at_191) ?_
            show Steps pP.tables eE below (T77.setTop (mkF mM 192 Ls62 [(.int (1 : Int32)), (.int (p1 &&& (255 : Int32)))])) _
            refine XS.iload X77.here hx rfl (hb hby at_192) rfl ?_
            show Steps pP.tables eE below (T77.setTop (mkF mM 194 Ls62 [(.int (Int32.ofNat f)), (.int (1 : Int32)), (.int (p1 &&& (255 : Int32)))])) _
            refine XS.iload X77.here hx rfl (hb hby at_194) rfl ?_
            show Steps pP.tables eE below (T77.setTop (mkF mM 196 Ls62 [(.int (Int32.ofNat tt)), (.int (Int32.ofNat f)), (.int (1 : Int32)), (.int (p1 &&& (255 : Int32)))])) _
            refine XS.iload X77.here hx rfl (hb hby at_196) rfl ?_
            show Steps pP.tables eE below (T77.setTop (mkF mM 198 Ls62 [(.int (own_dl p3)), (.int (Int32.ofNat tt)), (.int (Int32.ofNat f)), (.int (1 : Int32)), (.int (p1 &&& (255 : Int32)))])) _
            refine st81 _ ?_
            exact kg)
          by_cases hc82 : (own_hit (p1 &&& (255 : Int32)) (1 : Int32) (Int32.ofNat f) (Int32.ofNat tt) (own_dl p3)) = (0 : Int32)
          · obtain ⟨cl84, Ar84, -, S84, Nn84, Hh84, -⟩ := id f75
            have hin84 : ¬ ((2 : Int32) < 0 ∨ cl84.slots.size ≤ ((2 : Int32)).toNatClampNeg) := inb_of S84 ⟨by decide, by decide⟩
            have hat84 : cl84.slots[((2 : Int32)).toNatClampNeg]? = some (.int (p2 &&& (255 : Int32))) := Hh84.at hin84 rfl
            obtain ⟨_, _, ⟨T85, L85, k85, n85⟩, -, X85, ⟨Lc85, hQ85, l85, y85, z85⟩, st85⟩ := Jvm.LawKit.callS X81 hx (y := (⟨"com/example/resultwire/resultwire/er7/PiecesIsSplitPinLaw", "hit", "(CIIII)Z"⟩ : MethodName)) hown (mvT hZ (w_75 hw)) (mvT hZ (w_76 hw)) (mvT hZ (w_77 hw)) (mvT hZ (w_78 hw)) (by decide) (backOf (W := 0) (rm_hit l Z a0 hw [] (p2 &&& (255 : Int32)) (2 : Int32) (Int32.ofNat f) (Int32.ofNat tt) (own_dl p3) T69.heap n0 f76 ) hZ (w_78 hw) (w_77 hw) (by decide) (by decide)) (g := (mkF mM 215 Ls62 [(.int (own_dl p3)), (.int (Int32.ofNat tt)), (.int (Int32.ofNat f)), (.int (2 : Int32)), (.int (p2 &&& (255 : Int32)))])) rfl (by rw [hml]; rfl) (argsL := [(.int (p2 &&& (255 : Int32))), (.int (2 : Int32)), (.int (Int32.ofNat f)), (.int (Int32.ofNat tt)), (.int (own_dl p3))]) (rest := []) (lenOf pd_9 rfl) rfl (by show 2 * 0 + _ ≤ _; exact Nat.le_of_eq rfl) (hb hby at_215) (fun _ _ => ⟨rfl, Kq81, (by decide : 4 + 0 ≤ _), (by decide : 17 + 0 ≤ _)⟩)
            dsimp only [Pt.U, Pt.locs, Pt.cells, Pt.slots] at X85 l85 y85 z85 st85 hQ85
            subst l85 y85 z85
            obtain ⟨rfl, rfl, Kq85⟩ := hQ85
            try rw [List.append_nil] at X85
            have pre87 : ∀ tg, Steps pP.tables eE below (T85.setTop (mkF mM 218 Ls62 [(.int (own_hit (p2 &&& (255 : Int32)) (2 : Int32) (Int32.ofNat f) (Int32.ofNat tt) (own_dl p3)))])) tg → Steps pP.tables eE below (T69.setTop (mkF mM 164 Ls62 [])) tg := fun tg kg => pre83 tg (by
              refine XS.ifNo X81.here hx rfl (hb hby at_201) rfl ((if0 _ _).trans (teq hc82).2) ?_
              show Steps pP.tables eE below (T81.setTop (mkF mM 204 Ls62 [])) _
              refine XS.aload X81.here hx rfl (hb hby at_204) rfl rfl ?_
              show Steps pP.tables eE below (T81.setTop (mkF mM 206 Ls62 [(.ref b1)])) _
              refine XS.iconst X81.here hx rfl (hb hby at_206) ?_
              show Steps pP.tables eE below (T81.setTop (mkF mM 207 Ls62 [(.int (2 : Int32)), (.ref b1)])) _
              refine X81.caload hx (j := (2 : Int32)) (v := (.int (p2 &&& (255 : Int32)))) (by rw [Kq81]; exact Ar84.1) (State.isArrayOf_alike hZ.alike Ar84.2.1) Ar84.2.2 hin84 hat84 (g := (mkF mM 207 Ls62 [(.int (2 : Int32)), (.ref b1)])) rfl rfl (hb hby at_207) _ ?_
              show Steps pP.tables eE below (T81.setTop (mkF mM 208 Ls62 [(.int (p2 &&& (255 : Int32)))])) _
              refine XS.iconst X81.here hx rfl (hb hby at_208) ?_
              show Steps pP.tables eE below (T81.setTop (mkF mM 209 Ls62 [(.int (2 : Int32)), (.int (p2 &&& (255 : Int32)))])) _
              refine XS.iload X81.here hx rfl (hb hby at_209) rfl ?_
              show Steps pP.tables eE below (T81.setTop (mkF mM 211 Ls62 [(.int (Int32.ofNat f)), (.int (2 : Int32)), (.int (p2 &&& (255 : Int32)))])) _
              refine XS.iload X81.here hx rfl (hb hby at_211) rfl ?_
              show Steps pP.tables eE below (T81.setTop (mkF mM 213 Ls62 [(.int (Int32.ofNat tt)), (.int (Int32.ofNat f)), (.int (2 : Int32)), (.int (p2 &&& (255 : Int32)))])) _
              refine XS.iload X81.here hx rfl (hb hby at_213) rfl ?_
              show Steps pP.tables eE below (T81.setTop (mkF mM 215 Ls62 [(.int (own_dl p3)), (.int (Int32.ofNat tt)), (.int (Int32.ofNat f)), (.int (2 : Int32)), (.int (p2 &&& (255 : Int32)))])) _
              refine st85 _ ?_
              exact kg)
            by_cases hc86 : (own_hit (p2 &&& (255 : Int32)) (2 : Int32) (Int32.ofNat f) (Int32.ofNat tt) (own_dl p3)) = (0 : Int32)
            · refine ⟨T85, X85, Kq85, fun tg kg => ?_⟩
              rw [show (own_fd (own_dl p3) (Int32.ofNat f) (Int32.ofNat tt) (p0 &&& (255 : Int32)) (p1 &&& (255 : Int32)) (p2 &&& (255 : Int32))) = (0 : Int32) from by rw [own_fd, if_neg hc72, if_pos hc78, if_pos hc82, if_pos hc86]] at kg
              refine pre87 tg ?_
              refine XS.ifYes X85.here hx rfl (pc0 := 218) (pc' := 225) rfl (hb hby at_218) rfl ((if0 _ _).trans (teq hc86).1) (by decide) (by decide) ?_
              show Steps pP.tables eE below (T85.setTop (mkF mM 225 Ls62 [])) _
              refine XS.iconst X85.here hx rfl (hb hby at_225) ?_
              exact kg
            · refine ⟨T85, X85, Kq85, fun tg kg => ?_⟩
              rw [show (own_fd (own_dl p3) (Int32.ofNat f) (Int32.ofNat tt) (p0 &&& (255 : Int32)) (p1 &&& (255 : Int32)) (p2 &&& (255 : Int32))) = (1 : Int32) from by rw [own_fd, if_neg hc72, if_pos hc78, if_pos hc82, if_neg hc86]] at kg
              refine pre87 tg ?_
              refine XS.ifNo X85.here hx rfl (hb hby at_218) rfl ((if0 _ _).trans (feq hc86).1) ?_
              show Steps pP.tables eE below (T85.setTop (mkF mM 221 Ls62 [])) _
              refine XS.iconst X85.here hx rfl (hb hby at_221) ?_
              show Steps pP.tables eE below (T85.setTop (mkF mM 222 Ls62 [(.int (1 : Int32))])) _
              refine XS.goto X85.here hx rfl (pc0 := 222) (pc' := 226) rfl (hb hby at_222) (by decide) (by decide) ?_
              exact kg
          · refine ⟨T81, X81, Kq81, fun tg kg => ?_⟩
            rw [show (own_fd (own_dl p3) (Int32.ofNat f) (Int32.ofNat tt) (p0 &&& (255 : Int32)) (p1 &&& (255 : Int32)) (p2 &&& (255 : Int32))) = (1 : Int32) from by rw [own_fd, if_neg hc72, if_pos hc78, if_neg hc82]] at kg
            refine pre83 tg ?_
            refine XS.ifYes X81.here hx rfl (pc0 := 201) (pc' := 221) rfl (hb hby at_201) rfl ((if0 _ _).trans (feq hc82).2) (by decide) (by decide) ?_
            show Steps pP.tables eE below (T81.setTop (mkF mM 221 Ls62 [])) _
            refine XS.iconst X81.here hx rfl (hb hby at_221) ?_
            show Steps pP.tables eE below (T81.setTop (mkF mM 222 Ls62 [(.int (1 : Int32))])) _
            refine XS.goto X81.here hx rfl (pc0 := 222) (pc' := 226) rfl (hb hby at_222) (by decide) (by decide) ?_
            exact kg
        · refine ⟨T77, X77, Kq77, fun tg kg => ?_⟩
          rw [show (own_fd (own_dl p3) (Int32.ofNat f) (Int32.ofNat tt) (p0 &&& (255 : Int32)) (p1 &&& (255 : Int32)) (p2 &&& (255 : Int32))) = (1 : Int32) from by rw [own_fd, if_neg hc72, if_neg hc78]] at kg
          refine pre79 tg ?_
          refine XS.ifYes X77.here hx rfl (pc0 := 184) (pc' := 221) rfl (hb hby at_184) rfl ((if0 _ _).trans (feq hc78).2) (by decide) (by decide) ?_
          show Steps pP.tables eE below (T77.setTop (mkF mM 221 Ls62 [])) _
          refine XS.iconst X77.here hx rfl (hb hby at_221) ?_
          show Steps pP.tables eE below (T77.setTop (mkF mM 222 Ls62 [(.int (1 : Int32))])) _
          refine XS.goto X77.here hx rfl (pc0 := 222) (pc' := 226) rfl (hb hby at_222) (by decide) (by decide) ?_
          exact kg)
    let Ls88 : Array Slot := #[.val (.int p0), .val (.int p1), .val (.int p2), .val (.int p3), .val (.int p4), .val (.int p5), .val (.ref b1), .val (.ref b10), .val (.int (own_dl p3)), .val (.int (Int32.ofNat tt)), .val (.int (Int32.ofNat f)), .val (.int (1 : Int32)), .val (.ref b56), .val (.int (own_fd (own_dl p3) (Int32.ofNat f) (Int32.ofNat tt) (p0 &&& (255 : Int32)) (p1 &&& (255 : Int32)) (p2 &&& (255 : Int32)))), .unset]
    have pre90 : ∀ tg, Steps pP.tables eE below (T71.setTop (mkF mM 236 Ls88 [(.int (own_fd (own_dl p3) (Int32.ofNat f) (Int32.ofNat tt) (p0 &&& (255 : Int32)) (p1 &&& (255 : Int32)) (p2 &&& (255 : Int32))))])) tg → Steps pP.tables eE below (s₁.setTop (entryFrame mM #[(.int p0), (.int p1), (.int p2), (.int p3), (.int p4), (.int p5)] maxLocals)) tg := fun tg kg => pre24 tg (by
      refine XS.iload X18.here hx rfl (hb hby at_84) rfl ?_
      show Steps pP.tables eE below (T18.setTop (mkF mM 86 Ls23 [(.int p5)])) _
      refine XS.iconst X18.here hx rfl (hb hby at_86) ?_
      show Steps pP.tables eE below (T18.setTop (mkF mM 87 Ls23 [(.int (3 : Int32)), (.int p5)])) _
      refine XS.iand X18.here hx rfl (hb hby at_87) rfl ?_
      show Steps pP.tables eE below (T18.setTop (mkF mM 88 Ls23 [(.int (p5 &&& (3 : Int32)))])) _
      rw [hk]
      show Steps pP.tables eE below (T18.setTop (mkF mM 88 Ls23 [(.int (1 : Int32))])) _
      refine XS.istore X18.here hx rfl (hb hby at_88) rfl (l' := Ls55) rfl ?_
      show Steps pP.tables eE below (T18.setTop (mkF mM 90 Ls55 [])) _
      refine st56 _ ?_
      show Steps pP.tables eE below (T56.setTop (mkF mM 93 Ls55 [(.ref b56)])) _
      refine XS.dup X56.here hx rfl (hb hby at_93) rfl rfl ?_
      show Steps pP.tables eE below (T56.setTop (mkF mM 94 Ls55 [(.ref b56), (.ref b56)])) _
      refine XS.aload X56.here hx rfl (hb hby at_94) rfl rfl ?_
      show Steps pP.tables eE below (T56.setTop (mkF mM 96 Ls55 [(.ref b10), (.ref b56), (.ref b56)])) _
      refine XS.iload X56.here hx rfl (hb hby at_96) rfl ?_
      show Steps pP.tables eE below (T56.setTop (mkF mM 98 Ls55 [(.int (own_dl p3)), (.ref b10), (.ref b56), (.ref b56)])) _
      refine XS.iload X56.here hx rfl (hb hby at_98) rfl ?_
      show Steps pP.tables eE below (T56.setTop (mkF mM 100 Ls55 [(.int (Int32.ofNat f)), (.int (own_dl p3)), (.ref b10), (.ref b56), (.ref b56)])) _
      refine XS.iload X56.here hx rfl (hb hby at_100) rfl ?_
      show Steps pP.tables eE below (T56.setTop (mkF mM 102 Ls55 [(.int (Int32.ofNat tt)), (.int (Int32.ofNat f)), (.int (own_dl p3)), (.ref b10), (.ref b56), (.ref b56)])) _
      refine st60.trans ?_
      show Steps pP.tables eE below (T60.setTop (mkF mM 105 Ls55 [(.ref b56)])) _
      refine XS.astore X60.here hx rfl (hb hby at_105) rfl rfl (l' := Ls62) rfl ?_
      show Steps pP.tables eE below (T60.setTop (mkF mM 107 Ls62 [])) _
      refine XS.iload X60.here hx rfl (hb hby at_107) rfl ?_
      show Steps pP.tables eE below (T60.setTop (mkF mM 109 Ls62 [(.int (1 : Int32))])) _
      refine XS.iconst X60.here hx rfl (hb hby at_109) ?_
      show Steps pP.tables eE below (T60.setTop (mkF mM 110 Ls62 [(.int (1 : Int32)), (.int (1 : Int32))])) _
      refine XS.icmpNo X60.here hx rfl (hb hby at_110) rfl (flt (by decide : ¬ ((1 : Int32) < (1 : Int32)))).1 ?_
      show Steps pP.tables eE below (T60.setTop (mkF mM 113 Ls62 [])) _
      refine XS.aload X60.here hx rfl (hb hby at_113) rfl rfl ?_
      show Steps pP.tables eE below (T60.setTop (mkF mM 115 Ls62 [(.ref b56)])) _
      refine st64.trans ?_
      show Steps pP.tables eE below (T64.setTop (mkF mM 118 Ls62 [(.int (own_hn (Int32.ofNat f) (Int32.ofNat tt)))])) _
      refine XS.ifNo X64.here hx rfl (hb hby at_118) rfl ((if0 _ _).trans (feq (by rw [own_hn1 (own_nlt (by omega) (by omega))]; decide)).1) ?_
      show Steps pP.tables eE below (T64.setTop (mkF mM 121 Ls62 [])) _
      refine XS.aload X64.here hx rfl (hb hby at_121) rfl rfl ?_
      show Steps pP.tables eE below (T64.setTop (mkF mM 123 Ls62 [(.ref b56)])) _
      refine st69.trans ?_
      show Steps pP.tables eE below (T69.setTop (mkF mM 126 Ls62 [])) _
      refine XS.iload X69.here hx rfl (hb hby at_126) rfl ?_
      show Steps pP.tables eE below (T69.setTop (mkF mM 128 Ls62 [(.int (1 : Int32))])) _
      refine XS.iconst X69.here hx rfl (hb hby at_128) ?_
      show Steps pP.tables eE below (T69.setTop (mkF mM 129 Ls62 [(.int (2 : Int32)), (.int (1 : Int32))])) _
      refine XS.icmpYes X69.here hx rfl (pc0 := 129) (pc' := 145) rfl (hb hby at_129) rfl (tlt (by decide : (1 : Int32) < (2 : Int32))).1 (by decide) (by decide) ?_
      show Steps pP.tables eE below (T69.setTop (mkF mM 145 Ls62 [])) _
      refine XS.iload X69.here hx rfl (hb hby at_145) rfl ?_
      show Steps pP.tables eE below (T69.setTop (mkF mM 147 Ls62 [(.int (1 : Int32))])) _
      refine XS.iconst X69.here hx rfl (hb hby at_147) ?_
      show Steps pP.tables eE below (T69.setTop (mkF mM 148 Ls62 [(.int (3 : Int32)), (.int (1 : Int32))])) _
      refine XS.icmpYes X69.here hx rfl (pc0 := 148) (pc' := 164) rfl (hb hby at_148) rfl (tlt (by decide : (1 : Int32) < (3 : Int32))).1 (by decide) (by decide) ?_
      show Steps pP.tables eE below (T69.setTop (mkF mM 164 Ls62 [])) _
      refine st71 _ ?_
      show Steps pP.tables eE below (T71.setTop (mkF mM 226 Ls62 [(.int (own_fd (own_dl p3) (Int32.ofNat f) (Int32.ofNat tt) (p0 &&& (255 : Int32)) (p1 &&& (255 : Int32)) (p2 &&& (255 : Int32))))])) _
      refine XS.istore X71.here hx rfl (hb hby at_226) rfl (l' := Ls88) rfl ?_
      show Steps pP.tables eE below (T71.setTop (mkF mM 228 Ls88 [])) _
      refine XS.iload X71.here hx rfl (hb hby at_228) rfl ?_
      show Steps pP.tables eE below (T71.setTop (mkF mM 230 Ls88 [(.int (1 : Int32))])) _
      refine XS.iconst X71.here hx rfl (hb hby at_230) ?_
      show Steps pP.tables eE below (T71.setTop (mkF mM 231 Ls88 [(.int (1 : Int32)), (.int (1 : Int32))])) _
      refine XS.icmpNo X71.here hx rfl (hb hby at_231) rfl (flt (by decide : ¬ ((1 : Int32) < (1 : Int32)))).1 ?_
      show Steps pP.tables eE below (T71.setTop (mkF mM 234 Ls88 [])) _
      refine XS.iload X71.here hx rfl (hb hby at_234) rfl ?_
      exact kg)
    by_cases hc89 : (own_fd (own_dl p3) (Int32.ofNat f) (Int32.ofNat tt) (p0 &&& (255 : Int32)) (p1 &&& (255 : Int32)) (p2 &&& (255 : Int32))) = (0 : Int32)
    · let Ls91 : Array Slot := #[.val (.int p0), .val (.int p1), .val (.int p2), .val (.int p3), .val (.int p4), .val (.int p5), .val (.ref b1), .val (.ref b10), .val (.int (own_dl p3)), .val (.int (Int32.ofNat tt)), .val (.int (Int32.ofNat f)), .val (.int (1 : Int32)), .val (.ref b56), .val (.int (own_fd (own_dl p3) (Int32.ofNat f) (Int32.ofNat tt) (p0 &&& (255 : Int32)) (p1 &&& (255 : Int32)) (p2 &&& (255 : Int32)))), .val (.int (0 : Int32))]
      have f92 := (f63.keep Kq69 (allS g_b56 all0))
      obtain ⟨cq93, kq93, q93a, q93b, q93c⟩ := isOf hZ e71 q69_0
      obtain ⟨_, _, ⟨T93, L93, k93, n93⟩, -, X93, ⟨Lc93, hQ93, l93, y93, z93⟩, st93⟩ := X71.virtualBack hx (y := (⟨"com/example/resultwire/resultwire/er7/Pieces", "isSplit", "()Z"⟩ : MethodName)) (z := (⟨"com/example/resultwire/resultwire/er7/Pieces", "isSplit", "()Z"⟩ : MethodName)) hown (mvT hZ (w_79 hw)) (mvT hZ (w_80 hw)) (notFace_of_selects (args := #[]) (mvT hZ (w_82 hw))) (mvT hZ (w_82 hw)) (mvT hZ (w_81 hw)) (by decide) (backOf (W := 0) (rm_isp l Z a0 hw [] b56 ((0 : Int32) + (1 : Int32)) (Int32.ofNat (own_endOf [(p0 &&& (255 : Int32)), (p1 &&& (255 : Int32)), (p2 &&& (255 : Int32))] (own_dl p3) f tt)) (Int32.ofNat tt) T69.heap n0 f92 q69_7 q69_6 q69_3) hZ (w_83 hw) (w_32 hw) (by decide) (by decide)) q93a q93c (g := (mkF mM 248 Ls91 [(.ref b56)])) rfl (by rw [hml]; rfl) (Steps.refl _) (argsL := []) (rest := []) (lenOf pd_3 rfl) rfl (by show 2 * 0 + _ ≤ _; exact Nat.le_of_eq rfl) (hb hby at_248) (fun _ _ => ⟨rfl, e71, (by decide : 4 + 0 ≤ _), (by decide : 17 + 0 ≤ _)⟩)
      dsimp only [Pt.U, Pt.locs, Pt.cells, Pt.slots] at X93 l93 y93 z93 st93 hQ93
      subst l93 y93 z93
      obtain ⟨rfl, rfl, Kq93⟩ := hQ93
      try rw [List.append_nil] at X93
      obtain ⟨fs, hr, hrun, hended, hW, hsame⟩ := X93.leave (v := some (.int (1 : Int32))) (fun h => by rw [Bd.returns] at h; cases h)
      refine ⟨_, _, pre90 _ ?_, hrun, hended, _, _, rfl, ?_, ⟨_, rfl⟩, hW, hsame.mono (by decide) (by decide)⟩
      · refine XS.ifYes X71.here hx rfl (pc0 := 236) (pc' := 243) rfl (hb hby at_236) rfl ((if0 _ _).trans (teq hc89).1) (by decide) (by decide) ?_
        show Steps pP.tables eE below (T71.setTop (mkF mM 243 Ls88 [])) _
        refine XS.iconst X71.here hx rfl (hb hby at_243) ?_
        show Steps pP.tables eE below (T71.setTop (mkF mM 244 Ls88 [(.int (0 : Int32))])) _
        refine XS.istore X71.here hx rfl (hb hby at_244) rfl (l' := Ls91) rfl ?_
        show Steps pP.tables eE below (T71.setTop (mkF mM 246 Ls91 [])) _
        refine XS.aload X71.here hx rfl (hb hby at_246) rfl rfl ?_
        show Steps pP.tables eE below (T71.setTop (mkF mM 248 Ls91 [(.ref b56)])) _
        refine st93.trans ?_
        show Steps pP.tables eE below (T93.setTop (mkF mM 251 Ls91 [(.int (own_is ((0 : Int32) + (1 : Int32)) (Int32.ofNat (own_endOf [(p0 &&& (255 : Int32)), (p1 &&& (255 : Int32)), (p2 &&& (255 : Int32))] (own_dl p3) f tt)) (Int32.ofNat tt)))])) _
        refine XS.iload X93.here hx rfl (hb hby at_251) rfl ?_
        show Steps pP.tables eE below (T93.setTop (mkF mM 253 Ls91 [(.int (0 : Int32)), (.int (own_is ((0 : Int32) + (1 : Int32)) (Int32.ofNat (own_endOf [(p0 &&& (255 : Int32)), (p1 &&& (255 : Int32)), (p2 &&& (255 : Int32))] (own_dl p3) f tt)) (Int32.ofNat tt)))])) _
        refine XS.icmpNo X93.here hx rfl (hb hby at_253) rfl (teq (by rw [own_is1, own_fd0 hft htt |>.mp hc89, if_neg (own_nlt (by omega) (by omega))])).2 ?_
        show Steps pP.tables eE below (T93.setTop (mkF mM 256 Ls91 [])) _
        refine XS.iconst X93.here hx rfl (hb hby at_256) ?_
        show Steps pP.tables eE below (T93.setTop (mkF mM 257 Ls91 [(.int (1 : Int32))])) _
        refine XS.goto X93.here hx rfl (pc0 := 257) (pc' := 261) rfl (hb hby at_257) (by decide) (by decide) ?_
        show Steps pP.tables eE below (T93.setTop (mkF mM 261 Ls91 [(.int (1 : Int32))])) _
        exact retN X93 hx (t := .boolean) Bd.returns (by simp) (hb hby at_261) hr
      · show Q_law Z p0 p1 p2 p3 p4 p5 zc fm h0 n0 _ T93.heap _
        rw [Kq93]
        exact ⟨rfl, N69, K70⟩
    · let Ls95 : Array Slot := #[.val (.int p0), .val (.int p1), .val (.int p2), .val (.int p3), .val (.int p4), .val (.int p5), .val (.ref b1), .val (.ref b10), .val (.int (own_dl p3)), .val (.int (Int32.ofNat tt)), .val (.int (Int32.ofNat f)), .val (.int (1 : Int32)), .val (.ref b56), .val (.int (own_fd (own_dl p3) (Int32.ofNat f) (Int32.ofNat tt) (p0 &&& (255 : Int32)) (p1 &&& (255 : Int32)) (p2 &&& (255 : Int32)))), .val (.int (1 : Int32))]
      have f96 := (f63.keep Kq69 (allS g_b56 all0))
      obtain ⟨cq97, kq97, q97a, q97b, q97c⟩ := isOf hZ e71 q69_0
      obtain ⟨_, _, ⟨T97, L97, k97, n97⟩, -, X97, ⟨Lc97, hQ97, l97, y97, z97⟩, st97⟩ := X71.virtualBack hx (y := (⟨"com/example/resultwire/resultwire/er7/Pieces", "isSplit", "()Z"⟩ : MethodName)) (z := (⟨"com/example/resultwire/resultwire/er7/Pieces", "isSplit", "()Z"⟩ : MethodName)) hown (mvT hZ (w_79 hw)) (mvT hZ (w_80 hw)) (notFace_of_selects (args := #[]) (mvT hZ (w_82 hw))) (mvT hZ (w_82 hw)) (mvT hZ (w_81 hw)) (by decide) (backOf (W := 0) (rm_isp l Z a0 hw [] b56 ((0 : Int32) + (1 : Int32)) (Int32.ofNat (own_endOf [(p0 &&& (255 : Int32)), (p1 &&& (255 : Int32)), (p2 &&& (255 : Int32))] (own_dl p3) f tt)) (Int32.ofNat tt) T69.heap n0 f96 q69_7 q69_6 q69_3) hZ (w_83 hw) (w_32 hw) (by decide) (by decide)) q97a q97c (g := (mkF mM 248 Ls95 [(.ref b56)])) rfl (by rw [hml]; rfl) (Steps.refl _) (argsL := []) (rest := []) (lenOf pd_3 rfl) rfl (by show 2 * 0 + _ ≤ _; exact Nat.le_of_eq rfl) (hb hby at_248) (fun _ _ => ⟨rfl, e71, (by decide : 4 + 0 ≤ _), (by decide : 17 + 0 ≤ _)⟩)
      dsimp only [Pt.U, Pt.locs, Pt.cells, Pt.slots] at X97 l97 y97 z97 st97 hQ97
      subst l97 y97 z97
      obtain ⟨rfl, rfl, Kq97⟩ := hQ97
      try rw [List.append_nil] at X97
      obtain ⟨fs, hr, hrun, hended, hW, hsame⟩ := X97.leave (v := some (.int (1 : Int32))) (fun h => by rw [Bd.returns] at h; cases h)
      refine ⟨_, _, pre90 _ ?_, hrun, hended, _, _, rfl, ?_, ⟨_, rfl⟩, hW, hsame.mono (by decide) (by decide)⟩
      · refine XS.ifNo X71.here hx rfl (hb hby at_236) rfl ((if0 _ _).trans (feq hc89).1) ?_
        show Steps pP.tables eE below (T71.setTop (mkF mM 239 Ls88 [])) _
        refine XS.iconst X71.here hx rfl (hb hby at_239) ?_
        show Steps pP.tables eE below (T71.setTop (mkF mM 240 Ls88 [(.int (1 : Int32))])) _
        refine XS.goto X71.here hx rfl (pc0 := 240) (pc' := 244) rfl (hb hby at_240) (by decide) (by decide) ?_
        show Steps pP.tables eE below (T71.setTop (mkF mM 244 Ls88 [(.int (1 : Int32))])) _
        refine XS.istore X71.here hx rfl (hb hby at_244) rfl (l' := Ls95) rfl ?_
        show Steps pP.tables eE below (T71.setTop (mkF mM 246 Ls95 [])) _
        refine XS.aload X71.here hx rfl (hb hby at_246) rfl rfl ?_
        show Steps pP.tables eE below (T71.setTop (mkF mM 248 Ls95 [(.ref b56)])) _
        refine st97.trans ?_
        show Steps pP.tables eE below (T97.setTop (mkF mM 251 Ls95 [(.int (own_is ((0 : Int32) + (1 : Int32)) (Int32.ofNat (own_endOf [(p0 &&& (255 : Int32)), (p1 &&& (255 : Int32)), (p2 &&& (255 : Int32))] (own_dl p3) f tt)) (Int32.ofNat tt)))])) _
        refine XS.iload X97.here hx rfl (hb hby at_251) rfl ?_
        show Steps pP.tables eE below (T97.setTop (mkF mM 253 Ls95 [(.int (1 : Int32)), (.int (own_is ((0 : Int32) + (1 : Int32)) (Int32.ofNat (own_endOf [(p0 &&& (255 : Int32)), (p1 &&& (255 : Int32)), (p2 &&& (255 : Int32))] (own_dl p3) f tt)) (Int32.ofNat tt)))])) _
        refine XS.icmpNo X97.here hx rfl (hb hby at_253) rfl (teq (by rw [own_is1, if_pos (own_lt (by have := mt (own_fd0 hft htt).mpr hc89; have := (own_endOf_bd (cs := [(p0 &&& (255 : Int32)), (p1 &&& (255 : Int32)), (p2 &&& (255 : Int32))]) (d := own_dl p3) hft); omega) (by omega))])).2 ?_
        show Steps pP.tables eE below (T97.setTop (mkF mM 256 Ls95 [])) _
        refine XS.iconst X97.here hx rfl (hb hby at_256) ?_
        show Steps pP.tables eE below (T97.setTop (mkF mM 257 Ls95 [(.int (1 : Int32))])) _
        refine XS.goto X97.here hx rfl (pc0 := 257) (pc' := 261) rfl (hb hby at_257) (by decide) (by decide) ?_
        show Steps pP.tables eE below (T97.setTop (mkF mM 261 Ls95 [(.int (1 : Int32))])) _
        exact retN X97 hx (t := .boolean) Bd.returns (by simp) (hb hby at_261) hr
      · show Q_law Z p0 p1 p2 p3 p4 p5 zc fm h0 n0 _ T97.heap _
        rw [Kq97]
        exact ⟨rfl, N69, K70⟩
  · let Ls99 : Array Slot := #[.val (.int p0), .val (.int p1), .val (.int p2), .val (.int p3), .val (.int p4), .val (.int p5), .val (.ref b1), .val (.ref b10), .val (.int (own_dl p3)), .val (.int (Int32.ofNat tt)), .val (.int (Int32.ofNat f)), .val (.int (2 : Int32)), .unset, .unset, .unset]
    obtain ⟨T100, h100, X100, e100, E100, A100, D100, -, st100⟩ := newO X18 hx hZ hown (w_30 hw) (w_31 hw) (w_32 hw) e18 (g := (mkF mM 90 Ls99 [])) rfl (hb hby at_90) (by decide) (by decide)
    obtain ⟨b100, g100⟩ : ∃ z, z = T15.heap.size := ⟨_, rfl⟩
    rw [← g100] at A100 D100 st100
    have f101 := (f13.keep Kq15 (allS g_b10 all0))
    have g_b100 : n0 ≤ b100 := Nat.le_trans (own_osz f101) (Nat.le_of_eq g100.symm)
    have sz_b100 : h0.size ≤ b100 := Nat.le_trans K16.1 (Nat.le_of_eq g100.symm)
    have K102 : Keep h0 h100 [] := K16.ext E100
    have F_b100_m_sText : Fld Z h100 b100 "com/example/resultwire/resultwire/er7/Pieces" "m_sText" "Ljava/lang/String;" .null := D100 (Or.inr (w_38 hw)) (ty := (.object "java/lang/String")) (by decide)
    have F_b100_m_nDelimiter : Fld Z h100 b100 "com/example/resultwire/resultwire/er7/Pieces" "m_nDelimiter" "I" (.int (0 : Int32)) := D100 (Or.inr (w_40 hw)) (ty := .int) (by decide)
    have F_b100_m_nTo : Fld Z h100 b100 "com/example/resultwire/resultwire/er7/Pieces" "m_nTo" "I" (.int (0 : Int32)) := D100 (Or.inr (w_42 hw)) (ty := .int) (by decide)
    have F_b100_m_nFrom : Fld Z h100 b100 "com/example/resultwire/resultwire/er7/Pieces" "m_nFrom" "I" (.int (0 : Int32)) := D100 (Or.inl (w_44 hw)) (ty := .int) (by decide)
    have F_b100_m_nStart : Fld Z h100 b100 "com/example/resultwire/resultwire/er7/Pieces" "m_nStart" "I" (.int (0 : Int32)) := D100 (Or.inl (w_46 hw)) (ty := .int) (by decide)
    have F_b100_m_nEnd : Fld Z h100 b100 "com/example/resultwire/resultwire/er7/Pieces" "m_nEnd" "I" (.int (0 : Int32)) := D100 (Or.inl (w_48 hw)) (ty := .int) (by decide)
    have F_b100_m_nNumber : Fld Z h100 b100 "com/example/resultwire/resultwire/er7/Pieces" "m_nNumber" "I" (.int (0 : Int32)) := D100 (Or.inl (w_74 hw)) (ty := .int) (by decide)
    have f103 := (f101.ext E100)
    obtain ⟨_, _, ⟨T104, L104, k104, n104⟩, -, X104, ⟨Lc104, hQ104, l104, y104, z104⟩, st104⟩ := X100.specialBack hx (y := (⟨"com/example/resultwire/resultwire/er7/Pieces", "<init>", "(Ljava/lang/String;III)V"⟩ : MethodName)) rfl hown (mvT hZ (w_33 hw)) (mvT hZ (w_34 hw)) (mvT hZ (w_35 hw)) (by decide) (backOf (W := 1) (rm_pinit l Z a0 hw [] b100 b10 (own_dl p3) (Int32.ofNat f) (Int32.ofNat tt) .null (.int (0 : Int32)) (.int (0 : Int32)) (.int (0 : Int32)) (.int (0 : Int32)) (.int (0 : Int32)) h100 n0 f103 A100 F_b100_m_sText F_b100_m_nDelimiter F_b100_m_nTo F_b100_m_nFrom F_b100_m_nStart F_b100_m_nEnd F_b100_m_nNumber g_b100) hZ (w_35 hw) (w_32 hw) (by decide) (by decide)) (g := (mkF mM 102 Ls99 [(.int (Int32.ofNat tt)), (.int (Int32.ofNat f)), (.int (own_dl p3)), (.ref b10), (.ref b100), (.ref b100)])) rfl (by rw [hml]; rfl) (Steps.refl _) (a := b100) (argsL := [(.ref b10), (.int (own_dl p3)), (.int (Int32.ofNat f)), (.int (Int32.ofNat tt))]) (rest := [(.ref b100)]) (lenOf pd_8 rfl) rfl (by show 2 * 0 + _ ≤ _; exact Nat.le_of_eq rfl) (hb hby at_102) (fun _ _ => ⟨rfl, e100, (by decide : 4 + 0 ≤ _), (by decide : 17 + 0 ≤ _)⟩)
    dsimp only [Pt.U, Pt.locs, Pt.cells, Pt.slots] at X104 l104 y104 z104 st104 hQ104
    subst l104 y104 z104
    obtain ⟨rfl, Nq104, Kq104, q104_0, q104_1, q104_2, q104_3, q104_4, q104_5, q104_6, q104_7⟩ := hQ104
    have N104 := Fr.app N15 Nq104
    have K105 : Keep h0 T104.heap [] := K102.trans Kq104 (allS (Or.inr sz_b100) all0)
    let Ls106 : Array Slot := #[.val (.int p0), .val (.int p1), .val (.int p2), .val (.int p3), .val (.int p4), .val (.int p5), .val (.ref b1), .val (.ref b10), .val (.int (own_dl p3)), .val (.int (Int32.ofNat tt)), .val (.int (Int32.ofNat f)), .val (.int (2 : Int32)), .val (.ref b100), .unset, .unset]
    have f107 := (f103.keep Kq104 (allS g_b100 all0))
    obtain ⟨cq108, kq108, q108a, q108b, q108c⟩ := isOf hZ rfl q104_0
    obtain ⟨_, _, ⟨T108, L108, k108, n108⟩, -, X108, ⟨Lc108, hQ108, l108, y108, z108⟩, st108⟩ := X104.virtualBack hx (y := (⟨"com/example/resultwire/resultwire/er7/Pieces", "hasNext", "()Z"⟩ : MethodName)) (z := (⟨"com/example/resultwire/resultwire/er7/Pieces", "hasNext", "()Z"⟩ : MethodName)) hown (mvT hZ (w_49 hw)) (mvT hZ (w_50 hw)) (notFace_of_selects (args := #[]) (mvT hZ (w_52 hw))) (mvT hZ (w_52 hw)) (mvT hZ (w_51 hw)) (by decide) (backOf (W := 0) (rm_hn l Z a0 hw [] b100 (Int32.ofNat f) (Int32.ofNat tt) T104.heap n0 f107 q104_4 q104_3) hZ (w_53 hw) (w_32 hw) (by decide) (by decide)) q108a q108c (g := (mkF mM 115 Ls106 [(.ref b100)])) rfl (by rw [hml]; rfl) (Steps.refl _) (argsL := []) (rest := []) (lenOf pd_3 rfl) rfl (by show 2 * 0 + _ ≤ _; exact Nat.le_of_eq rfl) (hb hby at_115) (fun _ _ => ⟨rfl, rfl, (by decide : 4 + 0 ≤ _), (by decide : 17 + 0 ≤ _)⟩)
    dsimp only [Pt.U, Pt.locs, Pt.cells, Pt.slots] at X108 l108 y108 z108 st108 hQ108
    subst l108 y108 z108
    obtain ⟨rfl, rfl, Kq108⟩ := hQ108
    try rw [List.append_nil] at X108
    have f109 := (((Sq15).1.ext E100).keep Kq104)
    have f110 := (((Sq15).2.1.ext E100).keep Kq104 (ninS (Nat.ne_of_lt (Nat.lt_of_lt_of_le ((Sq15).1).lt (Nat.le_of_eq g100.symm))) nin0))
    have f111 := (((Sq15).2.2.1.ext E100).keep Kq104 (ninS (Nat.ne_of_lt (Nat.lt_of_lt_of_le ((Sq15).1).lt (Nat.le_of_eq g100.symm))) nin0))
    have f112 := (((Sq15).2.2.2.1.ext E100).keep Kq104 (ninS (Nat.ne_of_lt (Nat.lt_of_lt_of_le ((Sq15).2.2.2.1).lt (Nat.le_of_eq g100.symm))) nin0))
    obtain ⟨cq113, kq113, q113a, q113b, q113c⟩ := isOf hZ Kq108 q104_0
    obtain ⟨_, _, ⟨T113, L113, k113, n113⟩, -, X113, ⟨Lc113, hQ113, l113, y113, z113⟩, st113⟩ := X108.virtualBack hx (y := (⟨"com/example/resultwire/resultwire/er7/Pieces", "advance", "()V"⟩ : MethodName)) (z := (⟨"com/example/resultwire/resultwire/er7/Pieces", "advance", "()V"⟩ : MethodName)) hown (mvT hZ (w_54 hw)) (mvT hZ (w_55 hw)) (notFace_of_selects (args := #[]) (mvT hZ (w_57 hw))) (mvT hZ (w_57 hw)) (mvT hZ (w_56 hw)) (by decide) (backOf (W := 0) (rm_adv l Z a0 hw [] b100 b10 t15 kb15 ([(p0 &&& (255 : Int32)), (p1 &&& (255 : Int32)), (p2 &&& (255 : Int32))]) (own_dl p3) f tt zc fm (0 : Int32) (.int (Int32.ofNat f)) (.int (Int32.ofNat f)) T104.heap n0 f107 q104_0 q104_1 q104_2 q104_3 q104_4 q104_6 q104_5 q104_7 g_b100 (⟨f109, f110, f111, f112, (Sq15).2.2.2.2⟩ : own_Str Z T104.heap b10 t15 kb15 [(p0 &&& (255 : Int32)), (p1 &&& (255 : Int32)), (p2 &&& (255 : Int32))]) (by omega : f ≤ tt) (by omega : tt ≤ [(p0 &&& (255 : Int32)), (p1 &&& (255 : Int32)), (p2 &&& (255 : Int32))].length) (Nat.ne_of_lt (Nat.lt_of_lt_of_le ((Sq15).1).lt (Nat.le_of_eq g100.symm))) (Nat.ne_of_lt (Nat.lt_of_lt_of_le ((Sq15).2.2.2.1).lt (Nat.le_of_eq g100.symm))) S_COMPACT_STRINGS hp1 S_SIOOBE_FORMATTER hp3) hZ (w_58 hw) (w_32 hw) (by decide) (by decide)) q113a q113c (g := (mkF mM 123 Ls106 [(.ref b100)])) rfl (by rw [hml]; rfl) (Steps.refl _) (argsL := []) (rest := []) (lenOf pd_10 rfl) rfl (by show 2 * 0 + _ ≤ _; exact Nat.le_of_eq rfl) (hb hby at_123) (fun _ _ => ⟨rfl, Kq108, (by decide : 4 + 0 ≤ _), (by decide : 17 + 0 ≤ _)⟩)
    dsimp only [Pt.U, Pt.locs, Pt.cells, Pt.slots] at X113 l113 y113 z113 st113 hQ113
    subst l113 y113 z113
    obtain ⟨rfl, Nq113, Kq113, q113_0, q113_1, q113_2, q113_3, q113_4, q113_5, q113_6, q113_7⟩ := hQ113
    have N113 := Fr.app N104 Nq113
    have K114 : Keep h0 T113.heap [] := K105.trans Kq113 (allS (Or.inr sz_b100) all0)
    have f115 := (f107.keep Kq113 (allS g_b100 all0))
    obtain ⟨cq116, kq116, q116a, q116b, q116c⟩ := isOf hZ rfl q113_0
    obtain ⟨_, _, ⟨T116, L116, k116, n116⟩, -, X116, ⟨Lc116, hQ116, l116, y116, z116⟩, st116⟩ := X113.virtualBack hx (y := (⟨"com/example/resultwire/resultwire/er7/Pieces", "hasNext", "()Z"⟩ : MethodName)) (z := (⟨"com/example/resultwire/resultwire/er7/Pieces", "hasNext", "()Z"⟩ : MethodName)) hown (mvT hZ (w_49 hw)) (mvT hZ (w_50 hw)) (notFace_of_selects (args := #[]) (mvT hZ (w_52 hw))) (mvT hZ (w_52 hw)) (mvT hZ (w_51 hw)) (by decide) (backOf (W := 0) (rm_hn l Z a0 hw [] b100 (Int32.ofNat (own_endOf [(p0 &&& (255 : Int32)), (p1 &&& (255 : Int32)), (p2 &&& (255 : Int32))] (own_dl p3) f tt + 1)) (Int32.ofNat tt) T113.heap n0 f115 q113_4 q113_3) hZ (w_53 hw) (w_32 hw) (by decide) (by decide)) q116a q116c (g := (mkF mM 134 Ls106 [(.ref b100)])) rfl (by rw [hml]; rfl) (Steps.refl _) (argsL := []) (rest := []) (lenOf pd_3 rfl) rfl (by show 2 * 0 + _ ≤ _; exact Nat.le_of_eq rfl) (hb hby at_134) (fun _ _ => ⟨rfl, rfl, (by decide : 4 + 0 ≤ _), (by decide : 17 + 0 ≤ _)⟩)
    dsimp only [Pt.U, Pt.locs, Pt.cells, Pt.slots] at X116 l116 y116 z116 st116 hQ116
    subst l116 y116 z116
    obtain ⟨rfl, rfl, Kq116⟩ := hQ116
    try rw [List.append_nil] at X116
    have bd118 := own_endOf_bd (cs := [(p0 &&& (255 : Int32)), (p1 &&& (255 : Int32)), (p2 &&& (255 : Int32))]) (d := own_dl p3) (f := f) (t := tt) (by omega)
    have pre119 : ∀ tg, Steps pP.tables eE below (T116.setTop (mkF mM 137 Ls106 [(.int (own_hn (Int32.ofNat (own_endOf [(p0 &&& (255 : Int32)), (p1 &&& (255 : Int32)), (p2 &&& (255 : Int32))] (own_dl p3) f tt + 1)) (Int32.ofNat tt)))])) tg → Steps pP.tables eE below (s₁.setTop (entryFrame mM #[(.int p0), (.int p1), (.int p2), (.int p3), (.int p4), (.int p5)] maxLocals)) tg := fun tg kg => pre24 tg (by
      refine XS.iload X18.here hx rfl (hb hby at_84) rfl ?_
      show Steps pP.tables eE below (T18.setTop (mkF mM 86 Ls23 [(.int p5)])) _
      refine XS.iconst X18.here hx rfl (hb hby at_86) ?_
      show Steps pP.tables eE below (T18.setTop (mkF mM 87 Ls23 [(.int (3 : Int32)), (.int p5)])) _
      refine XS.iand X18.here hx rfl (hb hby at_87) rfl ?_
      show Steps pP.tables eE below (T18.setTop (mkF mM 88 Ls23 [(.int (p5 &&& (3 : Int32)))])) _
      rw [hk]
      show Steps pP.tables eE below (T18.setTop (mkF mM 88 Ls23 [(.int (2 : Int32))])) _
      refine XS.istore X18.here hx rfl (hb hby at_88) rfl (l' := Ls99) rfl ?_
      show Steps pP.tables eE below (T18.setTop (mkF mM 90 Ls99 [])) _
      refine st100 _ ?_
      show Steps pP.tables eE below (T100.setTop (mkF mM 93 Ls99 [(.ref b100)])) _
      refine XS.dup X100.here hx rfl (hb hby at_93) rfl rfl ?_
      show Steps pP.tables eE below (T100.setTop (mkF mM 94 Ls99 [(.ref b100), (.ref b100)])) _
      refine XS.aload X100.here hx rfl (hb hby at_94) rfl rfl ?_
      show Steps pP.tables eE below (T100.setTop (mkF mM 96 Ls99 [(.ref b10), (.ref b100), (.ref b100)])) _
      refine XS.iload X100.here hx rfl (hb hby at_96) rfl ?_
      show Steps pP.tables eE below (T100.setTop (mkF mM 98 Ls99 [(.int (own_dl p3)), (.ref b10), (.ref b100), (.ref b100)])) _
      refine XS.iload X100.here hx rfl (hb hby at_98) rfl ?_
      show Steps pP.tables eE below (T100.setTop (mkF mM 100 Ls99 [(.int (Int32.ofNat f)), (.int (own_dl p3)), (.ref b10), (.ref b100), (.ref b100)])) _
      refine XS.iload X100.here hx rfl (hb hby at_100) rfl ?_
      show Steps pP.tables eE below (T100.setTop (mkF mM 102 Ls99 [(.int (Int32.ofNat tt)), (.int (Int32.ofNat f)), (.int (own_dl p3)), (.ref b10), (.ref b100), (.ref b100)])) _
      refine st104.trans ?_
      show Steps pP.tables eE below (T104.setTop (mkF mM 105 Ls99 [(.ref b100)])) _
      refine XS.astore X104.here hx rfl (hb hby at_105) rfl rfl (l' := Ls106) rfl ?_
      show Steps pP.tables eE below (T104.setTop (mkF mM 107 Ls106 [])) _
      refine XS.iload X104.here hx rfl (hb hby at_107) rfl ?_
      show Steps pP.tables eE below (T104.setTop (mkF mM 109 Ls106 [(.int (2 : Int32))])) _
      refine XS.iconst X104.here hx rfl (hb hby at_109) ?_
      show Steps pP.tables eE below (T104.setTop (mkF mM 110 Ls106 [(.int (1 : Int32)), (.int (2 : Int32))])) _
      refine XS.icmpNo X104.here hx rfl (hb hby at_110) rfl (flt (by decide : ¬ ((2 : Int32) < (1 : Int32)))).1 ?_
      show Steps pP.tables eE below (T104.setTop (mkF mM 113 Ls106 [])) _
      refine XS.aload X104.here hx rfl (hb hby at_113) rfl rfl ?_
      show Steps pP.tables eE below (T104.setTop (mkF mM 115 Ls106 [(.ref b100)])) _
      refine st108.trans ?_
      show Steps pP.tables eE below (T108.setTop (mkF mM 118 Ls106 [(.int (own_hn (Int32.ofNat f) (Int32.ofNat tt)))])) _
      refine XS.ifNo X108.here hx rfl (hb hby at_118) rfl ((if0 _ _).trans (feq (by rw [own_hn1 (own_nlt (by omega) (by omega))]; decide)).1) ?_
      show Steps pP.tables eE below (T108.setTop (mkF mM 121 Ls106 [])) _
      refine XS.aload X108.here hx rfl (hb hby at_121) rfl rfl ?_
      show Steps pP.tables eE below (T108.setTop (mkF mM 123 Ls106 [(.ref b100)])) _
      refine st113.trans ?_
      show Steps pP.tables eE below (T113.setTop (mkF mM 126 Ls106 [])) _
      refine XS.iload X113.here hx rfl (hb hby at_126) rfl ?_
      show Steps pP.tables eE below (T113.setTop (mkF mM 128 Ls106 [(.int (2 : Int32))])) _
      refine XS.iconst X113.here hx rfl (hb hby at_128) ?_
      show Steps pP.tables eE below (T113.setTop (mkF mM 129 Ls106 [(.int (2 : Int32)), (.int (2 : Int32))])) _
      refine XS.icmpNo X113.here hx rfl (hb hby at_129) rfl (flt (by decide : ¬ ((2 : Int32) < (2 : Int32)))).1 ?_
      show Steps pP.tables eE below (T113.setTop (mkF mM 132 Ls106 [])) _
      refine XS.aload X113.here hx rfl (hb hby at_132) rfl rfl ?_
      show Steps pP.tables eE below (T113.setTop (mkF mM 134 Ls106 [(.ref b100)])) _
      refine st116.trans ?_
      exact kg)
    by_cases hn117 : (own_endOf [(p0 &&& (255 : Int32)), (p1 &&& (255 : Int32)), (p2 &&& (255 : Int32))] (own_dl p3) f tt + 1) ≤ tt
    · have f120 := (f109.keep Kq113)
      have f121 := (f110.keep Kq113 (ninS (Nat.ne_of_lt (Nat.lt_of_lt_of_le ((Sq15).1).lt (Nat.le_of_eq g100.symm))) nin0))
      have f122 := (f111.keep Kq113 (ninS (Nat.ne_of_lt (Nat.lt_of_lt_of_le ((Sq15).1).lt (Nat.le_of_eq g100.symm))) nin0))
      have f123 := (f112.keep Kq113 (ninS (Nat.ne_of_lt (Nat.lt_of_lt_of_le ((Sq15).2.2.2.1).lt (Nat.le_of_eq g100.symm))) nin0))
      obtain ⟨cq124, kq124, q124a, q124b, q124c⟩ := isOf hZ Kq116 q113_0
      obtain ⟨_, _, ⟨T124, L124, k124, n124⟩, -, X124, ⟨Lc124, hQ124, l124, y124, z124⟩, st124⟩ := X116.virtualBack hx (y := (⟨"com/example/resultwire/resultwire/er7/Pieces", "advance", "()V"⟩ : MethodName)) (z := (⟨"com/example/resultwire/resultwire/er7/Pieces", "advance", "()V"⟩ : MethodName)) hown (mvT hZ (w_54 hw)) (mvT hZ (w_55 hw)) (notFace_of_selects (args := #[]) (mvT hZ (w_57 hw))) (mvT hZ (w_57 hw)) (mvT hZ (w_56 hw)) (by decide) (backOf (W := 0) (rm_adv l Z a0 hw [] b100 b10 t15 kb15 ([(p0 &&& (255 : Int32)), (p1 &&& (255 : Int32)), (p2 &&& (255 : Int32))]) (own_dl p3) (own_endOf [(p0 &&& (255 : Int32)), (p1 &&& (255 : Int32)), (p2 &&& (255 : Int32))] (own_dl p3) f tt + 1) tt zc fm ((0 : Int32) + (1 : Int32)) (.int (Int32.ofNat f)) (.int (Int32.ofNat (own_endOf [(p0 &&& (255 : Int32)), (p1 &&& (255 : Int32)), (p2 &&& (255 : Int32))] (own_dl p3) f tt))) T113.heap n0 f115 q113_0 q113_1 q113_2 q113_3 q113_4 q113_5 q113_6 q113_7 g_b100 (⟨f120, f121, f122, f123, (Sq15).2.2.2.2⟩ : own_Str Z T113.heap b10 t15 kb15 [(p0 &&& (255 : Int32)), (p1 &&& (255 : Int32)), (p2 &&& (255 : Int32))]) (by omega : (own_endOf [(p0 &&& (255 : Int32)), (p1 &&& (255 : Int32)), (p2 &&& (255 : Int32))] (own_dl p3) f tt + 1) ≤ tt) (by omega : tt ≤ [(p0 &&& (255 : Int32)), (p1 &&& (255 : Int32)), (p2 &&& (255 : Int32))].length) (Nat.ne_of_lt (Nat.lt_of_lt_of_le ((Sq15).1).lt (Nat.le_of_eq g100.symm))) (Nat.ne_of_lt (Nat.lt_of_lt_of_le ((Sq15).2.2.2.1).lt (Nat.le_of_eq g100.symm))) S_COMPACT_STRINGS hp1 S_SIOOBE_FORMATTER hp3) hZ (w_58 hw) (w_32 hw) (by decide) (by decide)) q124a q124c (g := (mkF mM 142 Ls106 [(.ref b100)])) rfl (by rw [hml]; rfl) (Steps.refl _) (argsL := []) (rest := []) (lenOf pd_10 rfl) rfl (by show 2 * 0 + _ ≤ _; exact Nat.le_of_eq rfl) (hb hby at_142) (fun _ _ => ⟨rfl, Kq116, (by decide : 4 + 0 ≤ _), (by decide : 17 + 0 ≤ _)⟩)
      dsimp only [Pt.U, Pt.locs, Pt.cells, Pt.slots] at X124 l124 y124 z124 st124 hQ124
      subst l124 y124 z124
      obtain ⟨rfl, Nq124, Kq124, q124_0, q124_1, q124_2, q124_3, q124_4, q124_5, q124_6, q124_7⟩ := hQ124
      have N124 := Fr.app N113 Nq124
      have K125 : Keep h0 T124.heap [] := K114.trans Kq124 (allS (Or.inr sz_b100) all0)
      obtain ⟨T126, X126, e126, st126⟩ := own_to X124 (h := T124.heap) (g := (mkF mM 164 Ls106 [])) (g' := (mkF mM 226 Ls106 [(.int (own_fd (own_dl p3) (Int32.ofNat f) (Int32.ofNat tt) (p0 &&& (255 : Int32)) (p1 &&& (255 : Int32)) (p2 &&& (255 : Int32))))])) (by
        have pre128 : ∀ tg, Steps pP.tables eE below (T124.setTop (mkF mM 167 Ls106 [(.int (-1 : Int32)), (.int (own_dl p3))])) tg → Steps pP.tables eE below (T124.setTop (mkF mM 164 Ls106 [])) tg := fun tg kg => (by
          refine XS.iload X124.here hx rfl (hb hby at_164) rfl ?_
          show Steps pP.tables eE below (T124.setTop (mkF mM 166 Ls106 [(.int (own_dl p3))])) _
          refine XS.iconst X124.here hx rfl (hb hby at_166) ?_
          exact kg)
        by_cases hc127 : (own_dl p3) = (-1 : Int32)
        · refine ⟨T124, X124, rfl, fun tg kg => ?_⟩
          rw [show (own_fd (own_dl p3) (Int32.ofNat f) (Int32.ofNat tt) (p0 &&& (255 : Int32)) (p1 &&& (255 : Int32)) (p2 &&& (255 : Int32))) = (0 : Int32) from by rw [own_fd, if_pos hc127]] at kg
          refine pre128 tg ?_
          refine XS.icmpYes X124.here hx rfl (pc0 := 167) (pc' := 225) rfl (hb hby at_167) rfl (teq hc127).1 (by decide) (by decide) ?_
          show Steps pP.tables eE below (T124.setTop (mkF mM 225 Ls106 [])) _
          refine XS.iconst X124.here hx rfl (hb hby at_225) ?_
          exact kg
        · have f130 := (((((f14.keep Kq15 (ninS (Nat.ne_of_lt (Nat.lt_of_lt_of_le (Nat.lt_of_lt_of_le (Nat.lt_of_lt_of_le (Nat.lt_of_lt_of_le (V1).lt (Nat.le_of_eq W4.size.symm)) (Nat.le_of_eq W6.size.symm)) (Nat.le_of_eq W8.size.symm)) (Nat.le_of_eq g10.symm))) nin0)).ext E100).keep Kq104 (ninS (Nat.ne_of_lt (Nat.lt_of_lt_of_le (Nat.lt_of_lt_of_le (Nat.lt_of_lt_of_le (Nat.lt_of_lt_of_le (Nat.lt_of_lt_of_le (Nat.lt_of_lt_of_le (V1).lt (Nat.le_of_eq W4.size.symm)) (Nat.le_of_eq W6.size.symm)) (Nat.le_of_eq W8.size.symm)) E10.1) Kq15.1) (Nat.le_of_eq g100.symm))) nin0)).keep Kq113 (ninS (Nat.ne_of_lt (Nat.lt_of_lt_of_le (Nat.lt_of_lt_of_le (Nat.lt_of_lt_of_le (Nat.lt_of_lt_of_le (Nat.lt_of_lt_of_le (Nat.lt_of_lt_of_le (V1).lt (Nat.le_of_eq W4.size.symm)) (Nat.le_of_eq W6.size.symm)) (Nat.le_of_eq W8.size.symm)) E10.1) Kq15.1) (Nat.le_of_eq g100.symm))) nin0)).keep Kq124 (ninS (Nat.ne_of_lt (Nat.lt_of_lt_of_le (Nat.lt_of_lt_of_le (Nat.lt_of_lt_of_le (Nat.lt_of_lt_of_le (Nat.lt_of_lt_of_le (Nat.lt_of_lt_of_le (V1).lt (Nat.le_of_eq W4.size.symm)) (Nat.le_of_eq W6.size.symm)) (Nat.le_of_eq W8.size.symm)) E10.1) Kq15.1) (Nat.le_of_eq g100.symm))) nin0))
          obtain ⟨cl129, Ar129, -, S129, Nn129, Hh129, -⟩ := id f130
          have hin129 : ¬ ((0 : Int32) < 0 ∨ cl129.slots.size ≤ ((0 : Int32)).toNatClampNeg) := inb_of S129 ⟨by decide, by decide⟩
          have hat129 : cl129.slots[((0 : Int32)).toNatClampNeg]? = some (.int (p0 &&& (255 : Int32))) := Hh129.at hin129 rfl
          have f131 := (f115.keep Kq124 (allS g_b100 all0))
          obtain ⟨_, _, ⟨T132, L132, k132, n132⟩, -, X132, ⟨Lc132, hQ132, l132, y132, z132⟩, st132⟩ := Jvm.LawKit.callS X124 hx (y := (⟨"com/example/resultwire/resultwire/er7/PiecesIsSplitPinLaw", "hit", "(CIIII)Z"⟩ : MethodName)) hown (mvT hZ (w_75 hw)) (mvT hZ (w_76 hw)) (mvT hZ (w_77 hw)) (mvT hZ (w_78 hw)) (by decide) (backOf (W := 0) (rm_hit l Z a0 hw [] (p0 &&& (255 : Int32)) (0 : Int32) (Int32.ofNat f) (Int32.ofNat tt) (own_dl p3) T124.heap n0 f131 ) hZ (w_78 hw) (w_77 hw) (by decide) (by decide)) (g := (mkF mM 181 Ls106 [(.int (own_dl p3)), (.int (Int32.ofNat tt)), (.int (Int32.ofNat f)), (.int (0 : Int32)), (.int (p0 &&& (255 : Int32)))])) rfl (by rw [hml]; rfl) (argsL := [(.int (p0 &&& (255 : Int32))), (.int (0 : Int32)), (.int (Int32.ofNat f)), (.int (Int32.ofNat tt)), (.int (own_dl p3))]) (rest := []) (lenOf pd_9 rfl) rfl (by show 2 * 0 + _ ≤ _; exact Nat.le_of_eq rfl) (hb hby at_181) (fun _ _ => ⟨rfl, rfl, (by decide : 4 + 0 ≤ _), (by decide : 17 + 0 ≤ _)⟩)
          dsimp only [Pt.U, Pt.locs, Pt.cells, Pt.slots] at X132 l132 y132 z132 st132 hQ132
          subst l132 y132 z132
          obtain ⟨rfl, rfl, Kq132⟩ := hQ132
          try rw [List.append_nil] at X132
          have pre134 : ∀ tg, Steps pP.tables eE below (T132.setTop (mkF mM 184 Ls106 [(.int (own_hit (p0 &&& (255 : Int32)) (0 : Int32) (Int32.ofNat f) (Int32.ofNat tt) (own_dl p3)))])) tg → Steps pP.tables eE below (T124.setTop (mkF mM 164 Ls106 [])) tg := fun tg kg => pre128 tg (by
            refine XS.icmpNo X124.here hx rfl (hb hby at_167) rfl (feq hc127).1 ?_
            show Steps pP.tables eE below (T124.setTop (mkF mM 170 Ls106 [])) _
            refine XS.aload X124.here hx rfl (hb hby at_170) rfl rfl ?_
            show Steps pP.tables eE below (T124.setTop (mkF mM 172 Ls106 [(.ref b1)])) _
            refine XS.iconst X124.here hx rfl (hb hby at_172) ?_
            show Steps pP.tables eE below (T124.setTop (mkF mM 173 Ls106 [(.int (0 : Int32)), (.ref b1)])) _
            refine X124.caload hx (j := (0 : Int32)) (v := (.int (p0 &&& (255 : Int32)))) (Ar129.1) (State.isArrayOf_alike hZ.alike Ar129.2.1) Ar129.2.2 hin129 hat129 (g := (mkF mM 173 Ls106 [(.int (0 : Int32)), (.ref b1)])) rfl rfl (hb hby at_173) _ ?_
            show Steps pP.tables eE below (T124.setTop (mkF mM 174 Ls106 [(.int (p0 &&& (255 : Int32)))])) _
            refine XS.iconst X124.here hx rfl (hb hby at_174) ?_
            show Steps pP.tables eE below (T124.setTop (mkF mM 175 Ls106 [(.int (0 : Int32)), (.int (p0 &&& (255 : Int32)))])) _
            refine XS.iload X124.here hx rfl (hb hby at_175) rfl ?_
            show Steps pP.tables eE below (T124.setTop (mkF mM 177 Ls106 [(.int (Int32.ofNat f)), (.int (0 : Int32)), (.int (p0 &&& (255 : Int32)))])) _
            refine XS.iload X124.here hx rfl (hb hby at_177) rfl ?_
            show Steps pP.tables eE below (T124.setTop (mkF mM 179 Ls106 [(.int (Int32.ofNat tt)), (.int (Int32.ofNat f)), (.int (0 : Int32)), (.int (p0 &&& (255 : Int32)))])) _
            refine XS.iload X124.here hx rfl (hb hby at_179) rfl ?_
            show Steps pP.tables eE below (T124.setTop (mkF mM 181 Ls106 [(.int (own_dl p3)), (.int (Int32.ofNat tt)), (.int (Int32.ofNat f)), (.int (0 : Int32)), (.int (p0 &&& (255 : Int32)))])) _
            refine st132 _ ?_
            exact kg)
          by_cases hc133 : (own_hit (p0 &&& (255 : Int32)) (0 : Int32) (Int32.ofNat f) (Int32.ofNat tt) (own_dl p3)) = (0 : Int32)
          · obtain ⟨cl135, Ar135, -, S135, Nn135, Hh135, -⟩ := id f130
            have hin135 : ¬ ((1 : Int32) < 0 ∨ cl135.slots.size ≤ ((1 : Int32)).toNatClampNeg) := inb_of S135 ⟨by decide, by decide⟩
            have hat135 : cl135.slots[((1 : Int32)).toNatClampNeg]? = some (.int (p1 &&& (255 : Int32))) := Hh135.at hin135 rfl
            obtain ⟨_, _, ⟨T136, L136, k136, n136⟩, -, X136, ⟨Lc136, hQ136, l136, y136, z136⟩, st136⟩ := Jvm.LawKit.callS X132 hx (y := (⟨"com/example/resultwire/resultwire/er7/PiecesIsSplitPinLaw", "hit", "(CIIII)Z"⟩ : MethodName)) hown (mvT hZ (w_75 hw)) (mvT hZ (w_76 hw)) (mvT hZ (w_77 hw)) (mvT hZ (w_78 hw)) (by decide) (backOf (W := 0) (rm_hit l Z a0 hw [] (p1 &&& (255 : Int32)) (1 : Int32) (Int32.ofNat f) (Int32.ofNat tt) (own_dl p3) T124.heap n0 f131 ) hZ (w_78 hw) (w_77 hw) (by decide) (by decide)) (g := (mkF mM 198 Ls106 [(.int (own_dl p3)), (.int (Int32.ofNat tt)), (.int (Int32.ofNat f)), (.int (1 : Int32)), (.int (p1 &&& (255 : Int32)))])) rfl (by rw [hml]; rfl) (argsL := [(.int (p1 &&& (255 : Int32))), (.int (1 : Int32)), (.int (Int32.ofNat f)), (.int (Int32.ofNat tt)), (.int (own_dl p3))]) (rest := []) (lenOf pd_9 rfl) rfl (by show 2 * 0 + _ ≤ _; exact Nat.le_of_eq rfl) (hb hby at_198) (fun _ _ => ⟨rfl, Kq132, (by decide : 4 + 0 ≤ _), (by decide : 17 + 0 ≤ _)⟩)
            dsimp only [Pt.U, Pt.locs, Pt.cells, Pt.slots] at X136 l136 y136 z136 st136 hQ136
            subst l136 y136 z136
            obtain ⟨rfl, rfl, Kq136⟩ := hQ136
            try rw [List.append_nil] at X136
            have pre138 : ∀ tg, Steps pP.tables eE below (T136.setTop (mkF mM 201 Ls106 [(.int (own_hit (p1 &&& (255 : Int32)) (1 : Int32) (Int32.ofNat f) (Int32.ofNat tt) (own_dl p3)))])) tg → Steps pP.tables eE below (T124.setTop (mkF mM 164 Ls106 [])) tg := fun tg kg => pre134 tg (by
              refine XS.ifNo X132.here hx rfl (hb hby at_184) rfl ((if0 _ _).trans (teq hc133).2) ?_
              show Steps pP.tables eE below (T132.setTop (mkF mM 187 Ls106 [])) _
              refine XS.aload X132.here hx rfl (hb hby at_187) rfl rfl ?_
              show Steps pP.tables eE below (T132.setTop (mkF mM 189 Ls106 [(.ref b1)])) _
              refine XS.iconst X132.here hx rfl (hb hby at_189) ?_
              show Steps pP.tables eE below (T132.setTop (mkF mM 190 Ls106 [(.int (1 : Int32)), (.ref b1)])) _
              refine X132.caload hx (j := (1 : Int32)) (v := (.int (p1 &&& (255 : Int32)))) (by rw [Kq132]; exact Ar135.1) (State.isArrayOf_alike hZ.alike Ar135.2.1) Ar135.2.2 hin135 hat135 (g := (mkF mM 190 Ls106 [(.int (1 : Int32)), (.ref b1)])) rfl rfl (hb hby at_190) _ ?_
              show Steps pP.tables eE below (T132.setTop (mkF mM 191 Ls106 [(.int (p1 &&& (255 : Int32)))])) _
              refine XS.iconst X132.here hx rfl (hb hby at_191) ?_
              show Steps pP.tables eE below (T132.setTop (mkF mM 192 Ls106 [(.int (1 : Int32)), (.int (p1 &&& (255 : Int32)))])) _
              refine XS.iload X132.here hx rfl (hb hby at_192) rfl ?_
              show Steps pP.tables eE below (T132.setTop (mkF mM 194 Ls106 [(.int (Int32.ofNat f)), (.int (1 : Int32)), (.int (p1 &&& (255 : Int32)))])) _
              refine XS.iload X132.here hx rfl (hb hby at_194) rfl ?_
              show Steps pP.tables eE below (T132.setTop (mkF mM 196 Ls106 [(.int (Int32.ofNat tt)), (.int (Int32.ofNat f)), (.int (1 : Int32)), (.int (p1 &&& (255 : Int32)))])) _
              refine XS.iload X132.here hx rfl (hb hby at_196) rfl ?_
              show Steps pP.tables eE below (T132.setTop (mkF mM 198 Ls106 [(.int (own_dl p3)), (.int (Int32.ofNat tt)), (.int (Int32.ofNat f)), (.int (1 : Int32)), (.int (p1 &&& (255 : Int32)))])) _
              refine st136 _ ?_
              exact kg)
            by_cases hc137 : (own_hit (p1 &&& (255 : Int32)) (1 : Int32) (Int32.ofNat f) (Int32.ofNat tt) (own_dl p3)) = (0 : Int32)
            · obtain ⟨cl139, Ar139, -, S139, Nn139, Hh139, -⟩ := id f130
              have hin139 : ¬ ((2 : Int32) < 0 ∨ cl139.slots.size ≤ ((2 : Int32)).toNatClampNeg) := inb_of S139 ⟨by decide, by decide⟩
              have hat139 : cl139.slots[((2 : Int32)).toNatClampNeg]? = some (.int (p2 &&& (255 : Int32))) := Hh139.at hin139 rfl
              obtain ⟨_, _, ⟨T140, L140, k140, n140⟩, -, X140, ⟨Lc140, hQ140, l140, y140, z140⟩, st140⟩ := Jvm.LawKit.callS X136 hx (y := (⟨"com/example/resultwire/resultwire/er7/PiecesIsSplitPinLaw", "hit", "(CIIII)Z"⟩ : MethodName)) hown (mvT hZ (w_75 hw)) (mvT hZ (w_76 hw)) (mvT hZ (w_77 hw)) (mvT hZ (w_78 hw)) (by decide) (backOf (W := 0) (rm_hit l Z a0 hw [] (p2 &&& (255 : Int32)) (2 : Int32) (Int32.ofNat f) (Int32.ofNat tt) (own_dl p3) T124.heap n0 f131 ) hZ (w_78 hw) (w_77 hw) (by decide) (by decide)) (g := (mkF mM 215 Ls106 [(.int (own_dl p3)), (.int (Int32.ofNat tt)), (.int (Int32.ofNat f)), (.int (2 : Int32)), (.int (p2 &&& (255 : Int32)))])) rfl (by rw [hml]; rfl) (argsL := [(.int (p2 &&& (255 : Int32))), (.int (2 : Int32)), (.int (Int32.ofNat f)), (.int (Int32.ofNat tt)), (.int (own_dl p3))]) (rest := []) (lenOf pd_9 rfl) rfl (by show 2 * 0 + _ ≤ _; exact Nat.le_of_eq rfl) (hb hby at_215) (fun _ _ => ⟨rfl, Kq136, (by decide : 4 + 0 ≤ _), (by decide : 17 + 0 ≤ _)⟩)
              dsimp only [Pt.U, Pt.locs, Pt.cells, Pt.slots] at X140 l140 y140 z140 st140 hQ140
              subst l140 y140 z140
              obtain ⟨rfl, rfl, Kq140⟩ := hQ140
              try rw [List.append_nil] at X140
              have pre142 : ∀ tg, Steps pP.tables eE below (T140.setTop (mkF mM 218 Ls106 [(.int (own_hit (p2 &&& (255 : Int32)) (2 : Int32) (Int32.ofNat f) (Int32.ofNat tt) (own_dl p3)))])) tg → Steps pP.tables eE below (T124.setTop (mkF mM 164 Ls106 [])) tg := fun tg kg => pre138 tg (by
                refine XS.ifNo X136.here hx rfl (hb hby at_201) rfl ((if0 _ _).trans (teq hc137).2) ?_
                show Steps pP.tables eE below (T136.setTop (mkF mM 204 Ls106 [])) _
                refine XS.aload X136.here hx rfl (hb hby at_204) rfl rfl ?_
                show Steps pP.tables eE below (T136.setTop (mkF mM 206 Ls106 [(.ref b1)])) _
                refine XS.iconst X136.here hx rfl (hb hby at_206) ?_
                show Steps pP.tables eE below (T136.setTop (mkF mM 207 Ls106 [(.int (2 : Int32)), (.ref b1)])) _
                refine X136.caload hx (j := (2 : Int32)) (v := (.int (p2 &&& (255 : Int32)))) (by rw [Kq136]; exact Ar139.1) (State.isArrayOf_alike hZ.alike Ar139.2.1) Ar139.2.2 hin139 hat139 (g := (mkF mM 207 Ls106 [(.int (2 : Int32)), (.ref b1)])) rfl rfl (hb hby at_207) _ ?_
                show Steps pP.tables eE below (T136.setTop (mkF mM 208 Ls106 [(.int (p2 &&& (255 : Int32)))])) _
                refine XS.iconst X136.here hx rfl (hb hby at_208) ?_
                show Steps pP.tables eE below (T136.setTop (mkF mM 209 Ls106 [(.int (2 : Int32)), (.int (p2 &&& (255 : Int32)))])) _
                refine XS.iload X136.here hx rfl (hb hby at_209) rfl ?_
                show Steps pP.tables eE below (T136.setTop (mkF mM 211 Ls106 [(.int (Int32.ofNat f)), (.int (2 : Int32)), (.int (p2 &&& (255 : Int32)))])) _
                refine XS.iload X136.here hx rfl (hb hby at_211) rfl ?_
                show Steps pP.tables eE below (T136.setTop (mkF mM 213 Ls106 [(.int (Int32.ofNat tt)), (.int (Int32.ofNat f)), (.int (2 : Int32)), (.int (p2 &&& (255 : Int32)))])) _
                refine XS.iload X136.here hx rfl (hb hby at_213) rfl ?_
                show Steps pP.tables eE below (T136.setTop (mkF mM 215 Ls106 [(.int (own_dl p3)), (.int (Int32.ofNat tt)), (.int (Int32.ofNat f)), (.int (2 : Int32)), (.int (p2 &&& (255 : Int32)))])) _
                refine st140 _ ?_
                exact kg)
              by_cases hc141 : (own_hit (p2 &&& (255 : Int32)) (2 : Int32) (Int32.ofNat f) (Int32.ofNat tt) (own_dl p3)) = (0 : Int32)
              · refine ⟨T140, X140, Kq140, fun tg kg => ?_⟩
                rw [show (own_fd (own_dl p3) (Int32.ofNat f) (Int32.ofNat tt) (p0 &&& (255 : Int32)) (p1 &&& (255 : Int32)) (p2 &&& (255 : Int32))) = (0 : Int32) from by rw [own_fd, if_neg hc127, if_pos hc133, if_pos hc137, if_pos hc141]] at kg
                refine pre142 tg ?_
                refine XS.ifYes X140.here hx rfl (pc0 := 218) (pc' := 225) rfl (hb hby at_218) rfl ((if0 _ _).trans (teq hc141).1) (by decide) (by decide) ?_
                show Steps pP.tables eE below (T140.setTop (mkF mM 225 Ls106 [])) _
                refine XS.iconst X140.here hx rfl (hb hby at_225) ?_
                exact kg
              · refine ⟨T140, X140, Kq140, fun tg kg => ?_⟩
                rw [show (own_fd (own_dl p3) (Int32.ofNat f) (Int32.ofNat tt) (p0 &&& (255 : Int32)) (p1 &&& (255 : Int32)) (p2 &&& (255 : Int32))) = (1 : Int32) from by rw [own_fd, if_neg hc127, if_pos hc133, if_pos hc137, if_neg hc141]] at kg
                refine pre142 tg ?_
                refine XS.ifNo X140.here hx rfl (hb hby at_218) rfl ((if0 _ _).trans (feq hc141).1) ?_
                show Steps pP.tables eE below (T140.setTop (mkF mM 221 Ls106 [])) _
                refine XS.iconst X140.here hx rfl (hb hby at_221) ?_
                show Steps pP.tables eE below (T140.setTop (mkF mM 222 Ls106 [(.int (1 : Int32))])) _
                refine XS.goto X140.here hx rfl (pc0 := 222) (pc' := 226) rfl (hb hby at_222) (by decide) (by decide) ?_
                exact kg
            · refine ⟨T136, X136, Kq136, fun tg kg => ?_⟩
              rw [show (own_fd (own_dl p3) (Int32.ofNat f) (Int32.ofNat tt) (p0 &&& (255 : Int32)) (p1 &&& (255 : Int32)) (p2 &&& (255 : Int32))) = (1 : Int32) from by rw [own_fd, if_neg hc127, if_pos hc133, if_neg hc137]] at kg
              refine pre138 tg ?_
              refine XS.ifYes X136.here hx rfl (pc0 := 201) (pc' := 221) rfl (hb hby at_201) rfl ((if0 _ _).trans (feq hc137).2) (by decide) (by decide) ?_
              show Steps pP.tables eE below (T136.setTop (mkF mM 221 Ls106 [])) _
              refine XS.iconst X136.here hx rfl (hb hby at_221) ?_
              show Steps pP.tables eE below (T136.setTop (mkF mM 222 Ls106 [(.int (1 : Int32))])) _
              refine XS.goto X136.here hx rfl (pc0 := 222) (pc' := 226) rfl (hb hby at_222) (by decide) (by decide) ?_
              exact kg
          · refine ⟨T132, X132, Kq132, fun tg kg => ?_⟩
            rw [show (own_fd (own_dl p3) (Int32.ofNat f) (Int32.ofNat tt) (p0 &&& (255 : Int32)) (p1 &&& (255 : Int32)) (p2 &&& (255 : Int32))) = (1 : Int32) from by rw [own_fd, if_neg hc127, if_neg hc133]] at kg
            refine pre134 tg ?_
            refine XS.ifYes X132.here hx rfl (pc0 := 184) (pc' := 221) rfl (hb hby at_184) rfl ((if0 _ _).trans (feq hc133).2) (by decide) (by decide) ?_
            show Steps pP.tables eE below (T132.setTop (mkF mM 221 Ls106 [])) _
            refine XS.iconst X132.here hx rfl (hb hby at_221) ?_
            show Steps pP.tables eE below (T132.setTop (mkF mM 222 Ls106 [(.int (1 : Int32))])) _
            refine XS.goto X132.here hx rfl (pc0 := 222) (pc' := 226) rfl (hb hby at_222) (by decide) (by decide) ?_
            exact kg)
      let Ls143 : Array Slot := #[.val (.int p0), .val (.int p1), .val (.int p2), .val (.int p3), .val (.int p4), .val (.int p5), .val (.ref b1), .val (.ref b10), .val (.int (own_dl p3)), .val (.int (Int32.ofNat tt)), .val (.int (Int32.ofNat f)), .val (.int (2 : Int32)), .val (.ref b100), .val (.int (own_fd (own_dl p3) (Int32.ofNat f) (Int32.ofNat tt) (p0 &&& (255 : Int32)) (p1 &&& (255 : Int32)) (p2 &&& (255 : Int32)))), .unset]
      have pre145 : ∀ tg, Steps pP.tables eE below (T126.setTop (mkF mM 236 Ls143 [(.int (own_fd (own_dl p3) (Int32.ofNat f) (Int32.ofNat tt) (p0 &&& (255 : Int32)) (p1 &&& (255 : Int32)) (p2 &&& (255 : Int32))))])) tg → Steps pP.tables eE below (s₁.setTop (entryFrame mM #[(.int p0), (.int p1), (.int p2), (.int p3), (.int p4), (.int p5)] maxLocals)) tg := fun tg kg => pre119 tg (by
        refine XS.ifNo X116.here hx rfl (hb hby at_137) rfl ((if0 _ _).trans (feq (by rw [own_hn1 (own_nlt (by omega) (by omega))]; decide)).1) ?_
        show Steps pP.tables eE below (T116.setTop (mkF mM 140 Ls106 [])) _
        refine XS.aload X116.here hx rfl (hb hby at_140) rfl rfl ?_
        show Steps pP.tables eE below (T116.setTop (mkF mM 142 Ls106 [(.ref b100)])) _
        refine st124.trans ?_
        show Steps pP.tables eE below (T124.setTop (mkF mM 145 Ls106 [])) _
        refine XS.iload X124.here hx rfl (hb hby at_145) rfl ?_
        show Steps pP.tables eE below (T124.setTop (mkF mM 147 Ls106 [(.int (2 : Int32))])) _
        refine XS.iconst X124.here hx rfl (hb hby at_147) ?_
        show Steps pP.tables eE below (T124.setTop (mkF mM 148 Ls106 [(.int (3 : Int32)), (.int (2 : Int32))])) _
        refine XS.icmpYes X124.here hx rfl (pc0 := 148) (pc' := 164) rfl (hb hby at_148) rfl (tlt (by decide : (2 : Int32) < (3 : Int32))).1 (by decide) (by decide) ?_
        show Steps pP.tables eE below (T124.setTop (mkF mM 164 Ls106 [])) _
        refine st126 _ ?_
        show Steps pP.tables eE below (T126.setTop (mkF mM 226 Ls106 [(.int (own_fd (own_dl p3) (Int32.ofNat f) (Int32.ofNat tt) (p0 &&& (255 : Int32)) (p1 &&& (255 : Int32)) (p2 &&& (255 : Int32))))])) _
        refine XS.istore X126.here hx rfl (hb hby at_226) rfl (l' := Ls143) rfl ?_
        show Steps pP.tables eE below (T126.setTop (mkF mM 228 Ls143 [])) _
        refine XS.iload X126.here hx rfl (hb hby at_228) rfl ?_
        show Steps pP.tables eE below (T126.setTop (mkF mM 230 Ls143 [(.int (2 : Int32))])) _
        refine XS.iconst X126.here hx rfl (hb hby at_230) ?_
        show Steps pP.tables eE below (T126.setTop (mkF mM 231 Ls143 [(.int (1 : Int32)), (.int (2 : Int32))])) _
        refine XS.icmpNo X126.here hx rfl (hb hby at_231) rfl (flt (by decide : ¬ ((2 : Int32) < (1 : Int32)))).1 ?_
        show Steps pP.tables eE below (T126.setTop (mkF mM 234 Ls143 [])) _
        refine XS.iload X126.here hx rfl (hb hby at_234) rfl ?_
        exact kg)
      by_cases hc144 : (own_fd (own_dl p3) (Int32.ofNat f) (Int32.ofNat tt) (p0 &&& (255 : Int32)) (p1 &&& (255 : Int32)) (p2 &&& (255 : Int32))) = (0 : Int32)
      · let Ls146 : Array Slot := #[.val (.int p0), .val (.int p1), .val (.int p2), .val (.int p3), .val (.int p4), .val (.int p5), .val (.ref b1), .val (.ref b10), .val (.int (own_dl p3)), .val (.int (Int32.ofNat tt)), .val (.int (Int32.ofNat f)), .val (.int (2 : Int32)), .val (.ref b100), .val (.int (own_fd (own_dl p3) (Int32.ofNat f) (Int32.ofNat tt) (p0 &&& (255 : Int32)) (p1 &&& (255 : Int32)) (p2 &&& (255 : Int32)))), .val (.int (0 : Int32))]
        have f147 := (f115.keep Kq124 (allS g_b100 all0))
        obtain ⟨cq148, kq148, q148a, q148b, q148c⟩ := isOf hZ e126 q124_0
        obtain ⟨_, _, ⟨T148, L148, k148, n148⟩, -, X148, ⟨Lc148, hQ148, l148, y148, z148⟩, st148⟩ := X126.virtualBack hx (y := (⟨"com/example/resultwire/resultwire/er7/Pieces", "isSplit", "()Z"⟩ : MethodName)) (z := (⟨"com/example/resultwire/resultwire/er7/Pieces", "isSplit", "()Z"⟩ : MethodName)) hown (mvT hZ (w_79 hw)) (mvT hZ (w_80 hw)) (notFace_of_selects (args := #[]) (mvT hZ (w_82 hw))) (mvT hZ (w_82 hw)) (mvT hZ (w_81 hw)) (by decide) (backOf (W := 0) (rm_isp l Z a0 hw [] b100 (((0 : Int32) + (1 : Int32)) + (1 : Int32)) (Int32.ofNat (own_endOf [(p0 &&& (255 : Int32)), (p1 &&& (255 : Int32)), (p2 &&& (255 : Int32))] (own_dl p3) (own_endOf [(p0 &&& (255 : Int32)), (p1 &&& (255 : Int32)), (p2 &&& (255 : Int32))] (own_dl p3) f tt + 1) tt)) (Int32.ofNat tt) T124.heap n0 f147 q124_7 q124_6 q124_3) hZ (w_83 hw) (w_32 hw) (by decide) (by decide)) q148a q148c (g := (mkF mM 248 Ls146 [(.ref b100)])) rfl (by rw [hml]; rfl) (Steps.refl _) (argsL := []) (rest := []) (lenOf pd_3 rfl) rfl (by show 2 * 0 + _ ≤ _; exact Nat.le_of_eq rfl) (hb hby at_248) (fun _ _ => ⟨rfl, e126, (by decide : 4 + 0 ≤ _), (by decide : 17 + 0 ≤ _)⟩)
        dsimp only [Pt.U, Pt.locs, Pt.cells, Pt.slots] at X148 l148 y148 z148 st148 hQ148
        subst l148 y148 z148
        obtain ⟨rfl, rfl, Kq148⟩ := hQ148
        try rw [List.append_nil] at X148
        exact absurd (own_fd0 hft htt |>.mp hc144) (by omega)
      · let Ls149 : Array Slot := #[.val (.int p0), .val (.int p1), .val (.int p2), .val (.int p3), .val (.int p4), .val (.int p5), .val (.ref b1), .val (.ref b10), .val (.int (own_dl p3)), .val (.int (Int32.ofNat tt)), .val (.int (Int32.ofNat f)), .val (.int (2 : Int32)), .val (.ref b100), .val (.int (own_fd (own_dl p3) (Int32.ofNat f) (Int32.ofNat tt) (p0 &&& (255 : Int32)) (p1 &&& (255 : Int32)) (p2 &&& (255 : Int32)))), .val (.int (1 : Int32))]
        have f150 := (f115.keep Kq124 (allS g_b100 all0))
        obtain ⟨cq151, kq151, q151a, q151b, q151c⟩ := isOf hZ e126 q124_0
        obtain ⟨_, _, ⟨T151, L151, k151, n151⟩, -, X151, ⟨Lc151, hQ151, l151, y151, z151⟩, st151⟩ := X126.virtualBack hx (y := (⟨"com/example/resultwire/resultwire/er7/Pieces", "isSplit", "()Z"⟩ : MethodName)) (z := (⟨"com/example/resultwire/resultwire/er7/Pieces", "isSplit", "()Z"⟩ : MethodName)) hown (mvT hZ (w_79 hw)) (mvT hZ (w_80 hw)) (notFace_of_selects (args := #[]) (mvT hZ (w_82 hw))) (mvT hZ (w_82 hw)) (mvT hZ (w_81 hw)) (by decide) (backOf (W := 0) (rm_isp l Z a0 hw [] b100 (((0 : Int32) + (1 : Int32)) + (1 : Int32)) (Int32.ofNat (own_endOf [(p0 &&& (255 : Int32)), (p1 &&& (255 : Int32)), (p2 &&& (255 : Int32))] (own_dl p3) (own_endOf [(p0 &&& (255 : Int32)), (p1 &&& (255 : Int32)), (p2 &&& (255 : Int32))] (own_dl p3) f tt + 1) tt)) (Int32.ofNat tt) T124.heap n0 f150 q124_7 q124_6 q124_3) hZ (w_83 hw) (w_32 hw) (by decide) (by decide)) q151a q151c (g := (mkF mM 248 Ls149 [(.ref b100)])) rfl (by rw [hml]; rfl) (Steps.refl _) (argsL := []) (rest := []) (lenOf pd_3 rfl) rfl (by show 2 * 0 + _ ≤ _; exact Nat.le_of_eq rfl) (hb hby at_248) (fun _ _ => ⟨rfl, e126, (by decide : 4 + 0 ≤ _), (by decide : 17 + 0 ≤ _)⟩)
        dsimp only [Pt.U, Pt.locs, Pt.cells, Pt.slots] at X151 l151 y151 z151 st151 hQ151
        subst l151 y151 z151
        obtain ⟨rfl, rfl, Kq151⟩ := hQ151
        try rw [List.append_nil] at X151
        obtain ⟨fs, hr, hrun, hended, hW, hsame⟩ := X151.leave (v := some (.int (1 : Int32))) (fun h => by rw [Bd.returns] at h; cases h)
        refine ⟨_, _, pre145 _ ?_, hrun, hended, _, _, rfl, ?_, ⟨_, rfl⟩, hW, hsame.mono (by decide) (by decide)⟩
        · refine XS.ifNo X126.here hx rfl (hb hby at_236) rfl ((if0 _ _).trans (feq hc144).1) ?_
          show Steps pP.tables eE below (T126.setTop (mkF mM 239 Ls143 [])) _
          refine XS.iconst X126.here hx rfl (hb hby at_239) ?_
          show Steps pP.tables eE below (T126.setTop (mkF mM 240 Ls143 [(.int (1 : Int32))])) _
          refine XS.goto X126.here hx rfl (pc0 := 240) (pc' := 244) rfl (hb hby at_240) (by decide) (by decide) ?_
          show Steps pP.tables eE below (T126.setTop (mkF mM 244 Ls143 [(.int (1 : Int32))])) _
          refine XS.istore X126.here hx rfl (hb hby at_244) rfl (l' := Ls149) rfl ?_
          show Steps pP.tables eE below (T126.setTop (mkF mM 246 Ls149 [])) _
          refine XS.aload X126.here hx rfl (hb hby at_246) rfl rfl ?_
          show Steps pP.tables eE below (T126.setTop (mkF mM 248 Ls149 [(.ref b100)])) _
          refine st151.trans ?_
          show Steps pP.tables eE below (T151.setTop (mkF mM 251 Ls149 [(.int (own_is (((0 : Int32) + (1 : Int32)) + (1 : Int32)) (Int32.ofNat (own_endOf [(p0 &&& (255 : Int32)), (p1 &&& (255 : Int32)), (p2 &&& (255 : Int32))] (own_dl p3) (own_endOf [(p0 &&& (255 : Int32)), (p1 &&& (255 : Int32)), (p2 &&& (255 : Int32))] (own_dl p3) f tt + 1) tt)) (Int32.ofNat tt)))])) _
          refine XS.iload X151.here hx rfl (hb hby at_251) rfl ?_
          show Steps pP.tables eE below (T151.setTop (mkF mM 253 Ls149 [(.int (1 : Int32)), (.int (own_is (((0 : Int32) + (1 : Int32)) + (1 : Int32)) (Int32.ofNat (own_endOf [(p0 &&& (255 : Int32)), (p1 &&& (255 : Int32)), (p2 &&& (255 : Int32))] (own_dl p3) (own_endOf [(p0 &&& (255 : Int32)), (p1 &&& (255 : Int32)), (p2 &&& (255 : Int32))] (own_dl p3) f tt + 1) tt)) (Int32.ofNat tt)))])) _
          refine XS.icmpNo X151.here hx rfl (hb hby at_253) rfl (teq (own_is2 _ _)).2 ?_
          show Steps pP.tables eE below (T151.setTop (mkF mM 256 Ls149 [])) _
          refine XS.iconst X151.here hx rfl (hb hby at_256) ?_
          show Steps pP.tables eE below (T151.setTop (mkF mM 257 Ls149 [(.int (1 : Int32))])) _
          refine XS.goto X151.here hx rfl (pc0 := 257) (pc' := 261) rfl (hb hby at_257) (by decide) (by decide) ?_
          show Steps pP.tables eE below (T151.setTop (mkF mM 261 Ls149 [(.int (1 : Int32))])) _
          exact retN X151 hx (t := .boolean) Bd.returns (by simp) (hb hby at_261) hr
        · show Q_law Z p0 p1 p2 p3 p4 p5 zc fm h0 n0 _ T151.heap _
          rw [Kq151]
          exact ⟨rfl, N124, K125⟩
    · obtain ⟨T153, X153, e153, st153⟩ := own_to X116 (h := T113.heap) (g := (mkF mM 164 Ls106 [])) (g' := (mkF mM 226 Ls106 [(.int (own_fd (own_dl p3) (Int32.ofNat f) (Int32.ofNat tt) (p0 &&& (255 : Int32)) (p1 &&& (255 : Int32)) (p2 &&& (255 : Int32))))])) (by
        have pre155 : ∀ tg, Steps pP.tables eE below (T116.setTop (mkF mM 167 Ls106 [(.int (-1 : Int32)), (.int (own_dl p3))])) tg → Steps pP.tables eE below (T116.setTop (mkF mM 164 Ls106 [])) tg := fun tg kg => (by
          refine XS.iload X116.here hx rfl (hb hby at_164) rfl ?_
          show Steps pP.tables eE below (T116.setTop (mkF mM 166 Ls106 [(.int (own_dl p3))])) _
          refine XS.iconst X116.here hx rfl (hb hby at_166) ?_
          exact kg)
        by_cases hc154 : (own_dl p3) = (-1 : Int32)
        · refine ⟨T116, X116, Kq116, fun tg kg => ?_⟩
          rw [show (own_fd (own_dl p3) (Int32.ofNat f) (Int32.ofNat tt) (p0 &&& (255 : Int32)) (p1 &&& (255 : Int32)) (p2 &&& (255 : Int32))) = (0 : Int32) from by rw [own_fd, if_pos hc154]] at kg
          refine pre155 tg ?_
          refine XS.icmpYes X116.here hx rfl (pc0 := 167) (pc' := 225) rfl (hb hby at_167) rfl (teq hc154).1 (by decide) (by decide) ?_
          show Steps pP.tables eE below (T116.setTop (mkF mM 225 Ls106 [])) _
          refine XS.iconst X116.here hx rfl (hb hby at_225) ?_
          exact kg
        · have f157 := ((((f14.keep Kq15 (ninS (Nat.ne_of_lt (Nat.lt_of_lt_of_le (Nat.lt_of_lt_of_le (Nat.lt_of_lt_of_le (Nat.lt_of_lt_of_le (V1).lt (Nat.le_of_eq W4.size.symm)) (Nat.le_of_eq W6.size.symm)) (Nat.le_of_eq W8.size.symm)) (Nat.le_of_eq g10.symm))) nin0)).ext E100).keep Kq104 (ninS (Nat.ne_of_lt (Nat.lt_of_lt_of_le (Nat.lt_of_lt_of_le (Nat.lt_of_lt_of_le (Nat.lt_of_lt_of_le (Nat.lt_of_lt_of_le (Nat.lt_of_lt_of_le (V1).lt (Nat.le_of_eq W4.size.symm)) (Nat.le_of_eq W6.size.symm)) (Nat.le_of_eq W8.size.symm)) E10.1) Kq15.1) (Nat.le_of_eq g100.symm))) nin0)).keep Kq113 (ninS (Nat.ne_of_lt (Nat.lt_of_lt_of_le (Nat.lt_of_lt_of_le (Nat.lt_of_lt_of_le (Nat.lt_of_lt_of_le (Nat.lt_of_lt_of_le (Nat.lt_of_lt_of_le (V1).lt (Nat.le_of_eq W4.size.symm)) (Nat.le_of_eq W6.size.symm)) (Nat.le_of_eq W8.size.symm)) E10.1) Kq15.1) (Nat.le_of_eq g100.symm))) nin0))
          obtain ⟨cl156, Ar156, -, S156, Nn156, Hh156, -⟩ := id f157
          have hin156 : ¬ ((0 : Int32) < 0 ∨ cl156.slots.size ≤ ((0 : Int32)).toNatClampNeg) := inb_of S156 ⟨by decide, by decide⟩
          have hat156 : cl156.slots[((0 : Int32)).toNatClampNeg]? = some (.int (p0 &&& (255 : Int32))) := Hh156.at hin156 rfl
          obtain ⟨_, _, ⟨T158, L158, k158, n158⟩, -, X158, ⟨Lc158, hQ158, l158, y158, z158⟩, st158⟩ := Jvm.LawKit.callS X116 hx (y := (⟨"com/example/resultwire/resultwire/er7/PiecesIsSplitPinLaw", "hit", "(CIIII)Z"⟩ : MethodName)) hown (mvT hZ (w_75 hw)) (mvT hZ (w_76 hw)) (mvT hZ (w_77 hw)) (mvT hZ (w_78 hw)) (by decide) (backOf (W := 0) (rm_hit l Z a0 hw [] (p0 &&& (255 : Int32)) (0 : Int32) (Int32.ofNat f) (Int32.ofNat tt) (own_dl p3) T113.heap n0 f115 ) hZ (w_78 hw) (w_77 hw) (by decide) (by decide)) (g := (mkF mM 181 Ls106 [(.int (own_dl p3)), (.int (Int32.ofNat tt)), (.int (Int32.ofNat f)), (.int (0 : Int32)), (.int (p0 &&& (255 : Int32)))])) rfl (by rw [hml]; rfl) (argsL := [(.int (p0 &&& (255 : Int32))), (.int (0 : Int32)), (.int (Int32.ofNat f)), (.int (Int32.ofNat tt)), (.int (own_dl p3))]) (rest := []) (lenOf pd_9 rfl) rfl (by show 2 * 0 + _ ≤ _; exact Nat.le_of_eq rfl) (hb hby at_181) (fun _ _ => ⟨rfl, Kq116, (by decide : 4 + 0 ≤ _), (by decide : 17 + 0 ≤ _)⟩)
          dsimp only [Pt.U, Pt.locs, Pt.cells, Pt.slots] at X158 l158 y158 z158 st158 hQ158
          subst l158 y158 z158
          obtain ⟨rfl, rfl, Kq158⟩ := hQ158
          try rw [List.append_nil] at X158
          have pre160 : ∀ tg, Steps pP.tables eE below (T158.setTop (mkF mM 184 Ls106 [(.int (own_hit (p0 &&& (255 : Int32)) (0 : Int32) (Int32.ofNat f) (Int32.ofNat tt) (own_dl p3)))])) tg → Steps pP.tables eE below (T116.setTop (mkF mM 164 Ls106 [])) tg := fun tg kg => pre155 tg (by
            refine XS.icmpNo X116.here hx rfl (hb hby at_167) rfl (feq hc154).1 ?_
            show Steps pP.tables eE below (T116.setTop (mkF mM 170 Ls106 [])) _
            refine XS.aload X116.here hx rfl (hb hby at_170) rfl rfl ?_
            show Steps pP.tables eE below (T116.setTop (mkF mM 172 Ls106 [(.ref b1)])) _
            refine XS.iconst X116.here hx rfl (hb hby at_172) ?_
            show Steps pP.tables eE below (T116.setTop (mkF mM 173 Ls106 [(.int (0 : Int32)), (.ref b1)])) _
            refine X116.caload hx (j := (0 : Int32)) (v := (.int (p0 &&& (255 : Int32)))) (by rw [Kq116]; exact Ar156.1) (State.isArrayOf_alike hZ.alike Ar156.2.1) Ar156.2.2 hin156 hat156 (g := (mkF mM 173 Ls106 [(.int (0 : Int32)), (.ref b1)])) rfl rfl (hb hby at_173) _ ?_
            show Steps pP.tables eE below (T116.setTop (mkF mM 174 Ls106 [(.int (p0 &&& (255 : Int32)))])) _
            refine XS.iconst X116.here hx rfl (hb hby at_174) ?_
            show Steps pP.tables eE below (T116.setTop (mkF mM 175 Ls106 [(.int (0 : Int32)), (.int (p0 &&& (255 : Int32)))])) _
            refine XS.iload X116.here hx rfl (hb hby at_175) rfl ?_
            show Steps pP.tables eE below (T116.setTop (mkF mM 177 Ls106 [(.int (Int32.ofNat f)), (.int (0 : Int32)), (.int (p0 &&& (255 : Int32)))])) _
            refine XS.iload X116.here hx rfl (hb hby at_177) rfl ?_
            show Steps pP.tables eE below (T116.setTop (mkF mM 179 Ls106 [(.int (Int32.ofNat tt)), (.int (Int32.ofNat f)), (.int (0 : Int32)), (.int (p0 &&& (255 : Int32)))])) _
            refine XS.iload X116.here hx rfl (hb hby at_179) rfl ?_
            show Steps pP.tables eE below (T116.setTop (mkF mM 181 Ls106 [(.int (own_dl p3)), (.int (Int32.ofNat tt)), (.int (Int32.ofNat f)), (.int (0 : Int32)), (.int (p0 &&& (255 : Int32)))])) _
            refine st158 _ ?_
            exact kg)
          by_cases hc159 : (own_hit (p0 &&& (255 : Int32)) (0 : Int32) (Int32.ofNat f) (Int32.ofNat tt) (own_dl p3)) = (0 : Int32)
          · obtain ⟨cl161, Ar161, -, S161, Nn161, Hh161, -⟩ := id f157
            have hin161 : ¬ ((1 : Int32) < 0 ∨ cl161.slots.size ≤ ((1 : Int32)).toNatClampNeg) := inb_of S161 ⟨by decide, by decide⟩
            have hat161 : cl161.slots[((1 : Int32)).toNatClampNeg]? = some (.int (p1 &&& (255 : Int32))) := Hh161.at hin161 rfl
            obtain ⟨_, _, ⟨T162, L162, k162, n162⟩, -, X162, ⟨Lc162, hQ162, l162, y162, z162⟩, st162⟩ := Jvm.LawKit.callS X158 hx (y := (⟨"com/example/resultwire/resultwire/er7/PiecesIsSplitPinLaw", "hit", "(CIIII)Z"⟩ : MethodName)) hown (mvT hZ (w_75 hw)) (mvT hZ (w_76 hw)) (mvT hZ (w_77 hw)) (mvT hZ (w_78 hw)) (by decide) (backOf (W := 0) (rm_hit l Z a0 hw [] (p1 &&& (255 : Int32)) (1 : Int32) (Int32.ofNat f) (Int32.ofNat tt) (own_dl p3) T113.heap n0 f115 ) hZ (w_78 hw) (w_77 hw) (by decide) (by decide)) (g := (mkF mM 198 Ls106 [(.int (own_dl p3)), (.int (Int32.ofNat tt)), (.int (Int32.ofNat f)), (.int (1 : Int32)), (.int (p1 &&& (255 : Int32)))])) rfl (by rw [hml]; rfl) (argsL := [(.int (p1 &&& (255 : Int32))), (.int (1 : Int32)), (.int (Int32.ofNat f)), (.int (Int32.ofNat tt)), (.int (own_dl p3))]) (rest := []) (lenOf pd_9 rfl) rfl (by show 2 * 0 + _ ≤ _; exact Nat.le_of_eq rfl) (hb hby at_198) (fun _ _ => ⟨rfl, Kq158, (by decide : 4 + 0 ≤ _), (by decide : 17 + 0 ≤ _)⟩)
            dsimp only [Pt.U, Pt.locs, Pt.cells, Pt.slots] at X162 l162 y162 z162 st162 hQ162
            subst l162 y162 z162
            obtain ⟨rfl, rfl, Kq162⟩ := hQ162
            try rw [List.append_nil] at X162
            have pre164 : ∀ tg, Steps pP.tables eE below (T162.setTop (mkF mM 201 Ls106 [(.int (own_hit (p1 &&& (255 : Int32)) (1 : Int32) (Int32.ofNat f) (Int32.ofNat tt) (own_dl p3)))])) tg → Steps pP.tables eE below (T116.setTop (mkF mM 164 Ls106 [])) tg := fun tg kg => pre160 tg (by
              refine XS.ifNo X158.here hx rfl (hb hby at_184) rfl ((if0 _ _).trans (teq hc159).2) ?_
              show Steps pP.tables eE below (T158.setTop (mkF mM 187 Ls106 [])) _
              refine XS.aload X158.here hx rfl (hb hby at_187) rfl rfl ?_
              show Steps pP.tables eE below (T158.setTop (mkF mM 189 Ls106 [(.ref b1)])) _
              refine XS.iconst X158.here hx rfl (hb hby at_189) ?_
              show Steps pP.tables eE below (T158.setTop (mkF mM 190 Ls106 [(.int (1 : Int32)), (.ref b1)])) _
              refine X158.caload hx (j := (1 : Int32)) (v := (.int (p1 &&& (255 : Int32)))) (by rw [Kq158]; exact Ar161.1) (State.isArrayOf_alike hZ.alike Ar161.2.1) Ar161.2.2 hin161 hat161 (g := (mkF mM 190 Ls106 [(.int (1 : Int32)), (.ref b1)])) rfl rfl (hb hby at_190) _ ?_
              show Steps pP.tables eE below (T158.setTop (mkF mM 191 Ls106 [(.int (p1 &&& (255 : Int32)))])) _
              refine XS.iconst X158.here hx rfl (hb hby at_191) ?_
              show Steps pP.tables eE below (T158.setTop (mkF mM 192 Ls106 [(.int (1 : Int32)), (.int (p1 &&& (255 : Int32)))])) _
              refine XS.iload X158.here hx rfl (hb hby at_192) rfl ?_
              show Steps pP.tables eE below (T158.setTop (mkF mM 194 Ls106 [(.int (Int32.ofNat f)), (.int (1 : Int32)), (.int (p1 &&& (255 : Int32)))])) _
              refine XS.iload X158.here hx rfl (hb hby at_194) rfl ?_
              show Steps pP.tables eE below (T158.setTop (mkF mM 196 Ls106 [(.int (Int32.ofNat tt)), (.int (Int32.ofNat f)), (.int (1 : Int32)), (.int (p1 &&& (255 : Int32)))])) _
              refine XS.iload X158.here hx rfl (hb hby at_196) rfl ?_
              show Steps pP.tables eE below (T158.setTop (mkF mM 198 Ls106 [(.int (own_dl p3)), (.int (Int32.ofNat tt)), (.int (Int32.ofNat f)), (.int (1 : Int32)), (.int (p1 &&& (255 : Int32)))])) _
              refine st162 _ ?_
              exact kg)
            by_cases hc163 : (own_hit (p1 &&& (255 : Int32)) (1 : Int32) (Int32.ofNat f) (Int32.ofNat tt) (own_dl p3)) = (0 : Int32)
            · obtain ⟨cl165, Ar165, -, S165, Nn165, Hh165, -⟩ := id f157
              have hin165 : ¬ ((2 : Int32) < 0 ∨ cl165.slots.size ≤ ((2 : Int32)).toNatClampNeg) := inb_of S165 ⟨by decide, by decide⟩
              have hat165 : cl165.slots[((2 : Int32)).toNatClampNeg]? = some (.int (p2 &&& (255 : Int32))) := Hh165.at hin165 rfl
              obtain ⟨_, _, ⟨T166, L166, k166, n166⟩, -, X166, ⟨Lc166, hQ166, l166, y166, z166⟩, st166⟩ := Jvm.LawKit.callS X162 hx (y := (⟨"com/example/resultwire/resultwire/er7/PiecesIsSplitPinLaw", "hit", "(CIIII)Z"⟩ : MethodName)) hown (mvT hZ (w_75 hw)) (mvT hZ (w_76 hw)) (mvT hZ (w_77 hw)) (mvT hZ (w_78 hw)) (by decide) (backOf (W := 0) (rm_hit l Z a0 hw [] (p2 &&& (255 : Int32)) (2 : Int32) (Int32.ofNat f) (Int32.ofNat tt) (own_dl p3) T113.heap n0 f115 ) hZ (w_78 hw) (w_77 hw) (by decide) (by decide)) (g := (mkF mM 215 Ls106 [(.int (own_dl p3)), (.int (Int32.ofNat tt)), (.int (Int32.ofNat f)), (.int (2 : Int32)), (.int (p2 &&& (255 : Int32)))])) rfl (by rw [hml]; rfl) (argsL := [(.int (p2 &&& (255 : Int32))), (.int (2 : Int32)), (.int (Int32.ofNat f)), (.int (Int32.ofNat tt)), (.int (own_dl p3))]) (rest := []) (lenOf pd_9 rfl) rfl (by show 2 * 0 + _ ≤ _; exact Nat.le_of_eq rfl) (hb hby at_215) (fun _ _ => ⟨rfl, Kq162, (by decide : 4 + 0 ≤ _), (by decide : 17 + 0 ≤ _)⟩)
              dsimp only [Pt.U, Pt.locs, Pt.cells, Pt.slots] at X166 l166 y166 z166 st166 hQ166
              subst l166 y166 z166
              obtain ⟨rfl, rfl, Kq166⟩ := hQ166
              try rw [List.append_nil] at X166
              have pre168 : ∀ tg, Steps pP.tables eE below (T166.setTop (mkF mM 218 Ls106 [(.int (own_hit (p2 &&& (255 : Int32)) (2 : Int32) (Int32.ofNat f) (Int32.ofNat tt) (own_dl p3)))])) tg → Steps pP.tables eE below (T116.setTop (mkF mM 164 Ls106 [])) tg := fun tg kg => pre164 tg (by
                refine XS.ifNo X162.here hx rfl (hb hby at_201) rfl ((if0 _ _).trans (teq hc163).2) ?_
                show Steps pP.tables eE below (T162.setTop (mkF mM 204 Ls106 [])) _
                refine XS.aload X162.here hx rfl (hb hby at_204) rfl rfl ?_
                show Steps pP.tables eE below (T162.setTop (mkF mM 206 Ls106 [(.ref b1)])) _
                refine XS.iconst X162.here hx rfl (hb hby at_206) ?_
                show Steps pP.tables eE below (T162.setTop (mkF mM 207 Ls106 [(.int (2 : Int32)), (.ref b1)])) _
                refine X162.caload hx (j := (2 : Int32)) (v := (.int (p2 &&& (255 : Int32)))) (by rw [Kq162]; exact Ar165.1) (State.isArrayOf_alike hZ.alike Ar165.2.1) Ar165.2.2 hin165 hat165 (g := (mkF mM 207 Ls106 [(.int (2 : Int32)), (.ref b1)])) rfl rfl (hb hby at_207) _ ?_
                show Steps pP.tables eE below (T162.setTop (mkF mM 208 Ls106 [(.int (p2 &&& (255 : Int32)))])) _
                refine XS.iconst X162.here hx rfl (hb hby at_208) ?_
                show Steps pP.tables eE below (T162.setTop (mkF mM 209 Ls106 [(.int (2 : Int32)), (.int (p2 &&& (255 : Int32)))])) _
                refine XS.iload X162.here hx rfl (hb hby at_209) rfl ?_
                show Steps pP.tables eE below (T162.setTop (mkF mM 211 Ls106 [(.int (Int32.ofNat f)), (.int (2 : Int32)), (.int (p2 &&& (255 : Int32)))])) _
                refine XS.iload X162.here hx rfl (hb hby at_211) rfl ?_
                show Steps pP.tables eE below (T162.setTop (mkF mM 213 Ls106 [(.int (Int32.ofNat tt)), (.int (Int32.ofNat f)), (.int (2 : Int32)), (.int (p2 &&& (255 : Int32)))])) _
                refine XS.iload X162.here hx rfl (hb hby at_213) rfl ?_
                show Steps pP.tables eE below (T162.setTop (mkF mM 215 Ls106 [(.int (own_dl p3)), (.int (Int32.ofNat tt)), (.int (Int32.ofNat f)), (.int (2 : Int32)), (.int (p2 &&& (255 : Int32)))])) _
                refine st166 _ ?_
                exact kg)
              by_cases hc167 : (own_hit (p2 &&& (255 : Int32)) (2 : Int32) (Int32.ofNat f) (Int32.ofNat tt) (own_dl p3)) = (0 : Int32)
              · refine ⟨T166, X166, Kq166, fun tg kg => ?_⟩
                rw [show (own_fd (own_dl p3) (Int32.ofNat f) (Int32.ofNat tt) (p0 &&& (255 : Int32)) (p1 &&& (255 : Int32)) (p2 &&& (255 : Int32))) = (0 : Int32) from by rw [own_fd, if_neg hc154, if_pos hc159, if_pos hc163, if_pos hc167]] at kg
                refine pre168 tg ?_
                refine XS.ifYes X166.here hx rfl (pc0 := 218) (pc' := 225) rfl (hb hby at_218) rfl ((if0 _ _).trans (teq hc167).1) (by decide) (by decide) ?_
                show Steps pP.tables eE below (T166.setTop (mkF mM 225 Ls106 [])) _
                refine XS.iconst X166.here hx rfl (hb hby at_225) ?_
                exact kg
              · refine ⟨T166, X166, Kq166, fun tg kg => ?_⟩
                rw [show (own_fd (own_dl p3) (Int32.ofNat f) (Int32.ofNat tt) (p0 &&& (255 : Int32)) (p1 &&& (255 : Int32)) (p2 &&& (255 : Int32))) = (1 : Int32) from by rw [own_fd, if_neg hc154, if_pos hc159, if_pos hc163, if_neg hc167]] at kg
                refine pre168 tg ?_
                refine XS.ifNo X166.here hx rfl (hb hby at_218) rfl ((if0 _ _).trans (feq hc167).1) ?_
                show Steps pP.tables eE below (T166.setTop (mkF mM 221 Ls106 [])) _
                refine XS.iconst X166.here hx rfl (hb hby at_221) ?_
                show Steps pP.tables eE below (T166.setTop (mkF mM 222 Ls106 [(.int (1 : Int32))])) _
                refine XS.goto X166.here hx rfl (pc0 := 222) (pc' := 226) rfl (hb hby at_222) (by decide) (by decide) ?_
                exact kg
            · refine ⟨T162, X162, Kq162, fun tg kg => ?_⟩
              rw [show (own_fd (own_dl p3) (Int32.ofNat f) (Int32.ofNat tt) (p0 &&& (255 : Int32)) (p1 &&& (255 : Int32)) (p2 &&& (255 : Int32))) = (1 : Int32) from by rw [own_fd, if_neg hc154, if_pos hc159, if_neg hc163]] at kg
              refine pre164 tg ?_
              refine XS.ifYes X162.here hx rfl (pc0 := 201) (pc' := 221) rfl (hb hby at_201) rfl ((if0 _ _).trans (feq hc163).2) (by decide) (by decide) ?_
              show Steps pP.tables eE below (T162.setTop (mkF mM 221 Ls106 [])) _
              refine XS.iconst X162.here hx rfl (hb hby at_221) ?_
              show Steps pP.tables eE below (T162.setTop (mkF mM 222 Ls106 [(.int (1 : Int32))])) _
              refine XS.goto X162.here hx rfl (pc0 := 222) (pc' := 226) rfl (hb hby at_222) (by decide) (by decide) ?_
              exact kg
          · refine ⟨T158, X158, Kq158, fun tg kg => ?_⟩
            rw [show (own_fd (own_dl p3) (Int32.ofNat f) (Int32.ofNat tt) (p0 &&& (255 : Int32)) (p1 &&& (255 : Int32)) (p2 &&& (255 : Int32))) = (1 : Int32) from by rw [own_fd, if_neg hc154, if_neg hc159]] at kg
            refine pre160 tg ?_
            refine XS.ifYes X158.here hx rfl (pc0 := 184) (pc' := 221) rfl (hb hby at_184) rfl ((if0 _ _).trans (feq hc159).2) (by decide) (by decide) ?_
            show Steps pP.tables eE below (T158.setTop (mkF mM 221 Ls106 [])) _
            refine XS.iconst X158.here hx rfl (hb hby at_221) ?_
            show Steps pP.tables eE below (T158.setTop (mkF mM 222 Ls106 [(.int (1 : Int32))])) _
            refine XS.goto X158.here hx rfl (pc0 := 222) (pc' := 226) rfl (hb hby at_222) (by decide) (by decide) ?_
            exact kg)
      let Ls169 : Array Slot := #[.val (.int p0), .val (.int p1), .val (.int p2), .val (.int p3), .val (.int p4), .val (.int p5), .val (.ref b1), .val (.ref b10), .val (.int (own_dl p3)), .val (.int (Int32.ofNat tt)), .val (.int (Int32.ofNat f)), .val (.int (2 : Int32)), .val (.ref b100), .val (.int (own_fd (own_dl p3) (Int32.ofNat f) (Int32.ofNat tt) (p0 &&& (255 : Int32)) (p1 &&& (255 : Int32)) (p2 &&& (255 : Int32)))), .unset]
      have pre171 : ∀ tg, Steps pP.tables eE below (T153.setTop (mkF mM 236 Ls169 [(.int (own_fd (own_dl p3) (Int32.ofNat f) (Int32.ofNat tt) (p0 &&& (255 : Int32)) (p1 &&& (255 : Int32)) (p2 &&& (255 : Int32))))])) tg → Steps pP.tables eE below (s₁.setTop (entryFrame mM #[(.int p0), (.int p1), (.int p2), (.int p3), (.int p4), (.int p5)] maxLocals)) tg := fun tg kg => pre119 tg (by
        refine XS.ifYes X116.here hx rfl (pc0 := 137) (pc' := 145) rfl (hb hby at_137) rfl ((if0 _ _).trans (teq (if_pos (own_lt (by omega) (by omega)))).1) (by decide) (by decide) ?_
        show Steps pP.tables eE below (T116.setTop (mkF mM 145 Ls106 [])) _
        refine XS.iload X116.here hx rfl (hb hby at_145) rfl ?_
        show Steps pP.tables eE below (T116.setTop (mkF mM 147 Ls106 [(.int (2 : Int32))])) _
        refine XS.iconst X116.here hx rfl (hb hby at_147) ?_
        show Steps pP.tables eE below (T116.setTop (mkF mM 148 Ls106 [(.int (3 : Int32)), (.int (2 : Int32))])) _
        refine XS.icmpYes X116.here hx rfl (pc0 := 148) (pc' := 164) rfl (hb hby at_148) rfl (tlt (by decide : (2 : Int32) < (3 : Int32))).1 (by decide) (by decide) ?_
        show Steps pP.tables eE below (T116.setTop (mkF mM 164 Ls106 [])) _
        refine st153 _ ?_
        show Steps pP.tables eE below (T153.setTop (mkF mM 226 Ls106 [(.int (own_fd (own_dl p3) (Int32.ofNat f) (Int32.ofNat tt) (p0 &&& (255 : Int32)) (p1 &&& (255 : Int32)) (p2 &&& (255 : Int32))))])) _
        refine XS.istore X153.here hx rfl (hb hby at_226) rfl (l' := Ls169) rfl ?_
        show Steps pP.tables eE below (T153.setTop (mkF mM 228 Ls169 [])) _
        refine XS.iload X153.here hx rfl (hb hby at_228) rfl ?_
        show Steps pP.tables eE below (T153.setTop (mkF mM 230 Ls169 [(.int (2 : Int32))])) _
        refine XS.iconst X153.here hx rfl (hb hby at_230) ?_
        show Steps pP.tables eE below (T153.setTop (mkF mM 231 Ls169 [(.int (1 : Int32)), (.int (2 : Int32))])) _
        refine XS.icmpNo X153.here hx rfl (hb hby at_231) rfl (flt (by decide : ¬ ((2 : Int32) < (1 : Int32)))).1 ?_
        show Steps pP.tables eE below (T153.setTop (mkF mM 234 Ls169 [])) _
        refine XS.iload X153.here hx rfl (hb hby at_234) rfl ?_
        exact kg)
      by_cases hc170 : (own_fd (own_dl p3) (Int32.ofNat f) (Int32.ofNat tt) (p0 &&& (255 : Int32)) (p1 &&& (255 : Int32)) (p2 &&& (255 : Int32))) = (0 : Int32)
      · let Ls172 : Array Slot := #[.val (.int p0), .val (.int p1), .val (.int p2), .val (.int p3), .val (.int p4), .val (.int p5), .val (.ref b1), .val (.ref b10), .val (.int (own_dl p3)), .val (.int (Int32.ofNat tt)), .val (.int (Int32.ofNat f)), .val (.int (2 : Int32)), .val (.ref b100), .val (.int (own_fd (own_dl p3) (Int32.ofNat f) (Int32.ofNat tt) (p0 &&& (255 : Int32)) (p1 &&& (255 : Int32)) (p2 &&& (255 : Int32)))), .val (.int (0 : Int32))]
        obtain ⟨cq173, kq173, q173a, q173b, q173c⟩ := isOf hZ e153 q113_0
        obtain ⟨_, _, ⟨T173, L173, k173, n173⟩, -, X173, ⟨Lc173, hQ173, l173, y173, z173⟩, st173⟩ := X153.virtualBack hx (y := (⟨"com/example/resultwire/resultwire/er7/Pieces", "isSplit", "()Z"⟩ : MethodName)) (z := (⟨"com/example/resultwire/resultwire/er7/Pieces", "isSplit", "()Z"⟩ : MethodName)) hown (mvT hZ (w_79 hw)) (mvT hZ (w_80 hw)) (notFace_of_selects (args := #[]) (mvT hZ (w_82 hw))) (mvT hZ (w_82 hw)) (mvT hZ (w_81 hw)) (by decide) (backOf (W := 0) (rm_isp l Z a0 hw [] b100 ((0 : Int32) + (1 : Int32)) (Int32.ofNat (own_endOf [(p0 &&& (255 : Int32)), (p1 &&& (255 : Int32)), (p2 &&& (255 : Int32))] (own_dl p3) f tt)) (Int32.ofNat tt) T113.heap n0 f115 q113_7 q113_6 q113_3) hZ (w_83 hw) (w_32 hw) (by decide) (by decide)) q173a q173c (g := (mkF mM 248 Ls172 [(.ref b100)])) rfl (by rw [hml]; rfl) (Steps.refl _) (argsL := []) (rest := []) (lenOf pd_3 rfl) rfl (by show 2 * 0 + _ ≤ _; exact Nat.le_of_eq rfl) (hb hby at_248) (fun _ _ => ⟨rfl, e153, (by decide : 4 + 0 ≤ _), (by decide : 17 + 0 ≤ _)⟩)
        dsimp only [Pt.U, Pt.locs, Pt.cells, Pt.slots] at X173 l173 y173 z173 st173 hQ173
        subst l173 y173 z173
        obtain ⟨rfl, rfl, Kq173⟩ := hQ173
        try rw [List.append_nil] at X173
        obtain ⟨fs, hr, hrun, hended, hW, hsame⟩ := X173.leave (v := some (.int (1 : Int32))) (fun h => by rw [Bd.returns] at h; cases h)
        refine ⟨_, _, pre171 _ ?_, hrun, hended, _, _, rfl, ?_, ⟨_, rfl⟩, hW, hsame.mono (by decide) (by decide)⟩
        · refine XS.ifYes X153.here hx rfl (pc0 := 236) (pc' := 243) rfl (hb hby at_236) rfl ((if0 _ _).trans (teq hc170).1) (by decide) (by decide) ?_
          show Steps pP.tables eE below (T153.setTop (mkF mM 243 Ls169 [])) _
          refine XS.iconst X153.here hx rfl (hb hby at_243) ?_
          show Steps pP.tables eE below (T153.setTop (mkF mM 244 Ls169 [(.int (0 : Int32))])) _
          refine XS.istore X153.here hx rfl (hb hby at_244) rfl (l' := Ls172) rfl ?_
          show Steps pP.tables eE below (T153.setTop (mkF mM 246 Ls172 [])) _
          refine XS.aload X153.here hx rfl (hb hby at_246) rfl rfl ?_
          show Steps pP.tables eE below (T153.setTop (mkF mM 248 Ls172 [(.ref b100)])) _
          refine st173.trans ?_
          show Steps pP.tables eE below (T173.setTop (mkF mM 251 Ls172 [(.int (own_is ((0 : Int32) + (1 : Int32)) (Int32.ofNat (own_endOf [(p0 &&& (255 : Int32)), (p1 &&& (255 : Int32)), (p2 &&& (255 : Int32))] (own_dl p3) f tt)) (Int32.ofNat tt)))])) _
          refine XS.iload X173.here hx rfl (hb hby at_251) rfl ?_
          show Steps pP.tables eE below (T173.setTop (mkF mM 253 Ls172 [(.int (0 : Int32)), (.int (own_is ((0 : Int32) + (1 : Int32)) (Int32.ofNat (own_endOf [(p0 &&& (255 : Int32)), (p1 &&& (255 : Int32)), (p2 &&& (255 : Int32))] (own_dl p3) f tt)) (Int32.ofNat tt)))])) _
          refine XS.icmpNo X173.here hx rfl (hb hby at_253) rfl (teq (by rw [own_is1, own_fd0 hft htt |>.mp hc170, if_neg (own_nlt (by omega) (by omega))])).2 ?_
          show Steps pP.tables eE below (T173.setTop (mkF mM 256 Ls172 [])) _
          refine XS.iconst X173.here hx rfl (hb hby at_256) ?_
          show Steps pP.tables eE below (T173.setTop (mkF mM 257 Ls172 [(.int (1 : Int32))])) _
          refine XS.goto X173.here hx rfl (pc0 := 257) (pc' := 261) rfl (hb hby at_257) (by decide) (by decide) ?_
          show Steps pP.tables eE below (T173.setTop (mkF mM 261 Ls172 [(.int (1 : Int32))])) _
          exact retN X173 hx (t := .boolean) Bd.returns (by simp) (hb hby at_261) hr
        · show Q_law Z p0 p1 p2 p3 p4 p5 zc fm h0 n0 _ T173.heap _
          rw [Kq173]
          exact ⟨rfl, N113, K114⟩
      · let Ls175 : Array Slot := #[.val (.int p0), .val (.int p1), .val (.int p2), .val (.int p3), .val (.int p4), .val (.int p5), .val (.ref b1), .val (.ref b10), .val (.int (own_dl p3)), .val (.int (Int32.ofNat tt)), .val (.int (Int32.ofNat f)), .val (.int (2 : Int32)), .val (.ref b100), .val (.int (own_fd (own_dl p3) (Int32.ofNat f) (Int32.ofNat tt) (p0 &&& (255 : Int32)) (p1 &&& (255 : Int32)) (p2 &&& (255 : Int32)))), .val (.int (1 : Int32))]
        obtain ⟨cq176, kq176, q176a, q176b, q176c⟩ := isOf hZ e153 q113_0
        obtain ⟨_, _, ⟨T176, L176, k176, n176⟩, -, X176, ⟨Lc176, hQ176, l176, y176, z176⟩, st176⟩ := X153.virtualBack hx (y := (⟨"com/example/resultwire/resultwire/er7/Pieces", "isSplit", "()Z"⟩ : MethodName)) (z := (⟨"com/example/resultwire/resultwire/er7/Pieces", "isSplit", "()Z"⟩ : MethodName)) hown (mvT hZ (w_79 hw)) (mvT hZ (w_80 hw)) (notFace_of_selects (args := #[]) (mvT hZ (w_82 hw))) (mvT hZ (w_82 hw)) (mvT hZ (w_81 hw)) (by decide) (backOf (W := 0) (rm_isp l Z a0 hw [] b100 ((0 : Int32) + (1 : Int32)) (Int32.ofNat (own_endOf [(p0 &&& (255 : Int32)), (p1 &&& (255 : Int32)), (p2 &&& (255 : Int32))] (own_dl p3) f tt)) (Int32.ofNat tt) T113.heap n0 f115 q113_7 q113_6 q113_3) hZ (w_83 hw) (w_32 hw) (by decide) (by decide)) q176a q176c (g := (mkF mM 248 Ls175 [(.ref b100)])) rfl (by rw [hml]; rfl) (Steps.refl _) (argsL := []) (rest := []) (lenOf pd_3 rfl) rfl (by show 2 * 0 + _ ≤ _; exact Nat.le_of_eq rfl) (hb hby at_248) (fun _ _ => ⟨rfl, e153, (by decide : 4 + 0 ≤ _), (by decide : 17 + 0 ≤ _)⟩)
        dsimp only [Pt.U, Pt.locs, Pt.cells, Pt.slots] at X176 l176 y176 z176 st176 hQ176
        subst l176 y176 z176
        obtain ⟨rfl, rfl, Kq176⟩ := hQ176
        try rw [List.append_nil] at X176
        exact absurd (own_fd0 hft htt |>.mpr (by have := (own_endOf_bd (cs := [(p0 &&& (255 : Int32)), (p1 &&& (255 : Int32)), (p2 &&& (255 : Int32))]) (d := own_dl p3) hft); omega)) hc170
  · let Ls177 : Array Slot := #[.val (.int p0), .val (.int p1), .val (.int p2), .val (.int p3), .val (.int p4), .val (.int p5), .val (.ref b1), .val (.ref b10), .val (.int (own_dl p3)), .val (.int (Int32.ofNat tt)), .val (.int (Int32.ofNat f)), .val (.int (3 : Int32)), .unset, .unset, .unset]
    obtain ⟨T178, h178, X178, e178, E178, A178, D178, -, st178⟩ := newO X18 hx hZ hown (w_30 hw) (w_31 hw) (w_32 hw) e18 (g := (mkF mM 90 Ls177 [])) rfl (hb hby at_90) (by decide) (by decide)
    obtain ⟨b178, g178⟩ : ∃ z, z = T15.heap.size := ⟨_, rfl⟩
    rw [← g178] at A178 D178 st178
    have f179 := (f13.keep Kq15 (allS g_b10 all0))
    have g_b178 : n0 ≤ b178 := Nat.le_trans (own_osz f179) (Nat.le_of_eq g178.symm)
    have sz_b178 : h0.size ≤ b178 := Nat.le_trans K16.1 (Nat.le_of_eq g178.symm)
    have K180 : Keep h0 h178 [] := K16.ext E178
    have F_b178_m_sText : Fld Z h178 b178 "com/example/resultwire/resultwire/er7/Pieces" "m_sText" "Ljava/lang/String;" .null := D178 (Or.inr (w_38 hw)) (ty := (.object "java/lang/String")) (by decide)
    have F_b178_m_nDelimiter : Fld Z h178 b178 "com/example/resultwire/resultwire/er7/Pieces" "m_nDelimiter" "I" (.int (0 : Int32)) := D178 (Or.inr (w_40 hw)) (ty := .int) (by decide)
    have F_b178_m_nTo : Fld Z h178 b178 "com/example/resultwire/resultwire/er7/Pieces" "m_nTo" "I" (.int (0 : Int32)) := D178 (Or.inr (w_42 hw)) (ty := .int) (by decide)
    have F_b178_m_nFrom : Fld Z h178 b178 "com/example/resultwire/resultwire/er7/Pieces" "m_nFrom" "I" (.int (0 : Int32)) := D178 (Or.inl (w_44 hw)) (ty := .int) (by decide)
    have F_b178_m_nStart : Fld Z h178 b178 "com/example/resultwire/resultwire/er7/Pieces" "m_nStart" "I" (.int (0 : Int32)) := D178 (Or.inl (w_46 hw)) (ty := .int) (by decide)
    have F_b178_m_nEnd : Fld Z h178 b178 "com/example/resultwire/resultwire/er7/Pieces" "m_nEnd" "I" (.int (0 : Int32)) := D178 (Or.inl (w_48 hw)) (ty := .int) (by decide)
    have F_b178_m_nNumber : Fld Z h178 b178 "com/example/resultwire/resultwire/er7/Pieces" "m_nNumber" "I" (.int (0 : Int32)) := D178 (Or.inl (w_74 hw)) (ty := .int) (by decide)
    have f181 := (f179.ext E178)
    obtain ⟨_, _, ⟨T182, L182, k182, n182⟩, -, X182, ⟨Lc182, hQ182, l182, y182, z182⟩, st182⟩ := X178.specialBack hx (y := (⟨"com/example/resultwire/resultwire/er7/Pieces", "<init>", "(Ljava/lang/String;III)V"⟩ : MethodName)) rfl hown (mvT hZ (w_33 hw)) (mvT hZ (w_34 hw)) (mvT hZ (w_35 hw)) (by decide) (backOf (W := 1) (rm_pinit l Z a0 hw [] b178 b10 (own_dl p3) (Int32.ofNat f) (Int32.ofNat tt) .null (.int (0 : Int32)) (.int (0 : Int32)) (.int (0 : Int32)) (.int (0 : Int32)) (.int (0 : Int32)) h178 n0 f181 A178 F_b178_m_sText F_b178_m_nDelimiter F_b178_m_nTo F_b178_m_nFrom F_b178_m_nStart F_b178_m_nEnd F_b178_m_nNumber g_b178) hZ (w_35 hw) (w_32 hw) (by decide) (by decide)) (g := (mkF mM 102 Ls177 [(.int (Int32.ofNat tt)), (.int (Int32.ofNat f)), (.int (own_dl p3)), (.ref b10), (.ref b178), (.ref b178)])) rfl (by rw [hml]; rfl) (Steps.refl _) (a := b178) (argsL := [(.ref b10), (.int (own_dl p3)), (.int (Int32.ofNat f)), (.int (Int32.ofNat tt))]) (rest := [(.ref b178)]) (lenOf pd_8 rfl) rfl (by show 2 * 0 + _ ≤ _; exact Nat.le_of_eq rfl) (hb hby at_102) (fun _ _ => ⟨rfl, e178, (by decide : 4 + 0 ≤ _), (by decide : 17 + 0 ≤ _)⟩)
    dsimp only [Pt.U, Pt.locs, Pt.cells, Pt.slots] at X182 l182 y182 z182 st182 hQ182
    subst l182 y182 z182
    obtain ⟨rfl, Nq182, Kq182, q182_0, q182_1, q182_2, q182_3, q182_4, q182_5, q182_6, q182_7⟩ := hQ182
    have N182 := Fr.app N15 Nq182
    have K183 : Keep h0 T182.heap [] := K180.trans Kq182 (allS (Or.inr sz_b178) all0)
    let Ls184 : Array Slot := #[.val (.int p0), .val (.int p1), .val (.int p2), .val (.int p3), .val (.int p4), .val (.int p5), .val (.ref b1), .val (.ref b10), .val (.int (own_dl p3)), .val (.int (Int32.ofNat tt)), .val (.int (Int32.ofNat f)), .val (.int (3 : Int32)), .val (.ref b178), .unset, .unset]
    have f185 := (f181.keep Kq182 (allS g_b178 all0))
    obtain ⟨cq186, kq186, q186a, q186b, q186c⟩ := isOf hZ rfl q182_0
    obtain ⟨_, _, ⟨T186, L186, k186, n186⟩, -, X186, ⟨Lc186, hQ186, l186, y186, z186⟩, st186⟩ := X182.virtualBack hx (y := (⟨"com/example/resultwire/resultwire/er7/Pieces", "hasNext", "()Z"⟩ : MethodName)) (z := (⟨"com/example/resultwire/resultwire/er7/Pieces", "hasNext", "()Z"⟩ : MethodName)) hown (mvT hZ (w_49 hw)) (mvT hZ (w_50 hw)) (notFace_of_selects (args := #[]) (mvT hZ (w_52 hw))) (mvT hZ (w_52 hw)) (mvT hZ (w_51 hw)) (by decide) (backOf (W := 0) (rm_hn l Z a0 hw [] b178 (Int32.ofNat f) (Int32.ofNat tt) T182.heap n0 f185 q182_4 q182_3) hZ (w_53 hw) (w_32 hw) (by decide) (by decide)) q186a q186c (g := (mkF mM 115 Ls184 [(.ref b178)])) rfl (by rw [hml]; rfl) (Steps.refl _) (argsL := []) (rest := []) (lenOf pd_3 rfl) rfl (by show 2 * 0 + _ ≤ _; exact Nat.le_of_eq rfl) (hb hby at_115) (fun _ _ => ⟨rfl, rfl, (by decide : 4 + 0 ≤ _), (by decide : 17 + 0 ≤ _)⟩)
    dsimp only [Pt.U, Pt.locs, Pt.cells, Pt.slots] at X186 l186 y186 z186 st186 hQ186
    subst l186 y186 z186
    obtain ⟨rfl, rfl, Kq186⟩ := hQ186
    try rw [List.append_nil] at X186
    have f187 := (((Sq15).1.ext E178).keep Kq182)
    have f188 := (((Sq15).2.1.ext E178).keep Kq182 (ninS (Nat.ne_of_lt (Nat.lt_of_lt_of_le ((Sq15).1).lt (Nat.le_of_eq g178.symm))) nin0))
    have f189 := (((Sq15).2.2.1.ext E178).keep Kq182 (ninS (Nat.ne_of_lt (Nat.lt_of_lt_of_le ((Sq15).1).lt (Nat.le_of_eq g178.symm))) nin0))
    have f190 := (((Sq15).2.2.2.1.ext E178).keep Kq182 (ninS (Nat.ne_of_lt (Nat.lt_of_lt_of_le ((Sq15).2.2.2.1).lt (Nat.le_of_eq g178.symm))) nin0))
    obtain ⟨cq191, kq191, q191a, q191b, q191c⟩ := isOf hZ Kq186 q182_0
    obtain ⟨_, _, ⟨T191, L191, k191, n191⟩, -, X191, ⟨Lc191, hQ191, l191, y191, z191⟩, st191⟩ := X186.virtualBack hx (y := (⟨"com/example/resultwire/resultwire/er7/Pieces", "advance", "()V"⟩ : MethodName)) (z := (⟨"com/example/resultwire/resultwire/er7/Pieces", "advance", "()V"⟩ : MethodName)) hown (mvT hZ (w_54 hw)) (mvT hZ (w_55 hw)) (notFace_of_selects (args := #[]) (mvT hZ (w_57 hw))) (mvT hZ (w_57 hw)) (mvT hZ (w_56 hw)) (by decide) (backOf (W := 0) (rm_adv l Z a0 hw [] b178 b10 t15 kb15 ([(p0 &&& (255 : Int32)), (p1 &&& (255 : Int32)), (p2 &&& (255 : Int32))]) (own_dl p3) f tt zc fm (0 : Int32) (.int (Int32.ofNat f)) (.int (Int32.ofNat f)) T182.heap n0 f185 q182_0 q182_1 q182_2 q182_3 q182_4 q182_6 q182_5 q182_7 g_b178 (⟨f187, f188, f189, f190, (Sq15).2.2.2.2⟩ : own_Str Z T182.heap b10 t15 kb15 [(p0 &&& (255 : Int32)), (p1 &&& (255 : Int32)), (p2 &&& (255 : Int32))]) (by omega : f ≤ tt) (by omega : tt ≤ [(p0 &&& (255 : Int32)), (p1 &&& (255 : Int32)), (p2 &&& (255 : Int32))].length) (Nat.ne_of_lt (Nat.lt_of_lt_of_le ((Sq15).1).lt (Nat.le_of_eq g178.symm))) (Nat.ne_of_lt (Nat.lt_of_lt_of_le ((Sq15).2.2.2.1).lt (Nat.le_of_eq g178.symm))) S_COMPACT_STRINGS hp1 S_SIOOBE_FORMATTER hp3) hZ (w_58 hw) (w_32 hw) (by decide) (by decide)) q191a q191c (g := (mkF mM 123 Ls184 [(.ref b178)])) rfl (by rw [hml]; rfl) (Steps.refl _) (argsL := []) (rest := []) (lenOf pd_10 rfl) rfl (by show 2 * 0 + _ ≤ _; exact Nat.le_of_eq rfl) (hb hby at_123) (fun _ _ => ⟨rfl, Kq186, (by decide : 4 + 0 ≤ _), (by decide : 17 + 0 ≤ _)⟩)
    dsimp only [Pt.U, Pt.locs, Pt.cells, Pt.slots] at X191 l191 y191 z191 st191 hQ191
    subst l191 y191 z191
    obtain ⟨rfl, Nq191, Kq191, q191_0, q191_1, q191_2, q191_3, q191_4, q191_5, q191_6, q191_7⟩ := hQ191
    have N191 := Fr.app N182 Nq191
    have K192 : Keep h0 T191.heap [] := K183.trans Kq191 (allS (Or.inr sz_b178) all0)
    have f193 := (f185.keep Kq191 (allS g_b178 all0))
    obtain ⟨cq194, kq194, q194a, q194b, q194c⟩ := isOf hZ rfl q191_0
    obtain ⟨_, _, ⟨T194, L194, k194, n194⟩, -, X194, ⟨Lc194, hQ194, l194, y194, z194⟩, st194⟩ := X191.virtualBack hx (y := (⟨"com/example/resultwire/resultwire/er7/Pieces", "hasNext", "()Z"⟩ : MethodName)) (z := (⟨"com/example/resultwire/resultwire/er7/Pieces", "hasNext", "()Z"⟩ : MethodName)) hown (mvT hZ (w_49 hw)) (mvT hZ (w_50 hw)) (notFace_of_selects (args := #[]) (mvT hZ (w_52 hw))) (mvT hZ (w_52 hw)) (mvT hZ (w_51 hw)) (by decide) (backOf (W := 0) (rm_hn l Z a0 hw [] b178 (Int32.ofNat (own_endOf [(p0 &&& (255 : Int32)), (p1 &&& (255 : Int32)), (p2 &&& (255 : Int32))] (own_dl p3) f tt + 1)) (Int32.ofNat tt) T191.heap n0 f193 q191_4 q191_3) hZ (w_53 hw) (w_32 hw) (by decide) (by decide)) q194a q194c (g := (mkF mM 134 Ls184 [(.ref b178)])) rfl (by rw [hml]; rfl) (Steps.refl _) (argsL := []) (rest := []) (lenOf pd_3 rfl) rfl (by show 2 * 0 + _ ≤ _; exact Nat.le_of_eq rfl) (hb hby at_134) (fun _ _ => ⟨rfl, rfl, (by decide : 4 + 0 ≤ _), (by decide : 17 + 0 ≤ _)⟩)
    dsimp only [Pt.U, Pt.locs, Pt.cells, Pt.slots] at X194 l194 y194 z194 st194 hQ194
    subst l194 y194 z194
    obtain ⟨rfl, rfl, Kq194⟩ := hQ194
    try rw [List.append_nil] at X194
    have bd196 := own_endOf_bd (cs := [(p0 &&& (255 : Int32)), (p1 &&& (255 : Int32)), (p2 &&& (255 : Int32))]) (d := own_dl p3) (f := f) (t := tt) (by omega)
    have pre197 : ∀ tg, Steps pP.tables eE below (T194.setTop (mkF mM 137 Ls184 [(.int (own_hn (Int32.ofNat (own_endOf [(p0 &&& (255 : Int32)), (p1 &&& (255 : Int32)), (p2 &&& (255 : Int32))] (own_dl p3) f tt + 1)) (Int32.ofNat tt)))])) tg → Steps pP.tables eE below (s₁.setTop (entryFrame mM #[(.int p0), (.int p1), (.int p2), (.int p3), (.int p4), (.int p5)] maxLocals)) tg := fun tg kg => pre24 tg (by
      refine XS.iload X18.here hx rfl (hb hby at_84) rfl ?_
      show Steps pP.tables eE below (T18.setTop (mkF mM 86 Ls23 [(.int p5)])) _
      refine XS.iconst X18.here hx rfl (hb hby at_86) ?_
      show Steps pP.tables eE below (T18.setTop (mkF mM 87 Ls23 [(.int (3 : Int32)), (.int p5)])) _
      refine XS.iand X18.here hx rfl (hb hby at_87) rfl ?_
      show Steps pP.tables eE below (T18.setTop (mkF mM 88 Ls23 [(.int (p5 &&& (3 : Int32)))])) _
      rw [hk]
      show Steps pP.tables eE below (T18.setTop (mkF mM 88 Ls23 [(.int (3 : Int32))])) _
      refine XS.istore X18.here hx rfl (hb hby at_88) rfl (l' := Ls177) rfl ?_
      show Steps pP.tables eE below (T18.setTop (mkF mM 90 Ls177 [])) _
      refine st178 _ ?_
      show Steps pP.tables eE below (T178.setTop (mkF mM 93 Ls177 [(.ref b178)])) _
      refine XS.dup X178.here hx rfl (hb hby at_93) rfl rfl ?_
      show Steps pP.tables eE below (T178.setTop (mkF mM 94 Ls177 [(.ref b178), (.ref b178)])) _
      refine XS.aload X178.here hx rfl (hb hby at_94) rfl rfl ?_
      show Steps pP.tables eE below (T178.setTop (mkF mM 96 Ls177 [(.ref b10), (.ref b178), (.ref b178)])) _
      refine XS.iload X178.here hx rfl (hb hby at_96) rfl ?_
      show Steps pP.tables eE below (T178.setTop (mkF mM 98 Ls177 [(.int (own_dl p3)), (.ref b10), (.ref b178), (.ref b178)])) _
      refine XS.iload X178.here hx rfl (hb hby at_98) rfl ?_
      show Steps pP.tables eE below (T178.setTop (mkF mM 100 Ls177 [(.int (Int32.ofNat f)), (.int (own_dl p3)), (.ref b10), (.ref b178), (.ref b178)])) _
      refine XS.iload X178.here hx rfl (hb hby at_100) rfl ?_
      show Steps pP.tables eE below (T178.setTop (mkF mM 102 Ls177 [(.int (Int32.ofNat tt)), (.int (Int32.ofNat f)), (.int (own_dl p3)), (.ref b10), (.ref b178), (.ref b178)])) _
      refine st182.trans ?_
      show Steps pP.tables eE below (T182.setTop (mkF mM 105 Ls177 [(.ref b178)])) _
      refine XS.astore X182.here hx rfl (hb hby at_105) rfl rfl (l' := Ls184) rfl ?_
      show Steps pP.tables eE below (T182.setTop (mkF mM 107 Ls184 [])) _
      refine XS.iload X182.here hx rfl (hb hby at_107) rfl ?_
      show Steps pP.tables eE below (T182.setTop (mkF mM 109 Ls184 [(.int (3 : Int32))])) _
      refine XS.iconst X182.here hx rfl (hb hby at_109) ?_
      show Steps pP.tables eE below (T182.setTop (mkF mM 110 Ls184 [(.int (1 : Int32)), (.int (3 : Int32))])) _
      refine XS.icmpNo X182.here hx rfl (hb hby at_110) rfl (flt (by decide : ¬ ((3 : Int32) < (1 : Int32)))).1 ?_
      show Steps pP.tables eE below (T182.setTop (mkF mM 113 Ls184 [])) _
      refine XS.aload X182.here hx rfl (hb hby at_113) rfl rfl ?_
      show Steps pP.tables eE below (T182.setTop (mkF mM 115 Ls184 [(.ref b178)])) _
      refine st186.trans ?_
      show Steps pP.tables eE below (T186.setTop (mkF mM 118 Ls184 [(.int (own_hn (Int32.ofNat f) (Int32.ofNat tt)))])) _
      refine XS.ifNo X186.here hx rfl (hb hby at_118) rfl ((if0 _ _).trans (feq (by rw [own_hn1 (own_nlt (by omega) (by omega))]; decide)).1) ?_
      show Steps pP.tables eE below (T186.setTop (mkF mM 121 Ls184 [])) _
      refine XS.aload X186.here hx rfl (hb hby at_121) rfl rfl ?_
      show Steps pP.tables eE below (T186.setTop (mkF mM 123 Ls184 [(.ref b178)])) _
      refine st191.trans ?_
      show Steps pP.tables eE below (T191.setTop (mkF mM 126 Ls184 [])) _
      refine XS.iload X191.here hx rfl (hb hby at_126) rfl ?_
      show Steps pP.tables eE below (T191.setTop (mkF mM 128 Ls184 [(.int (3 : Int32))])) _
      refine XS.iconst X191.here hx rfl (hb hby at_128) ?_
      show Steps pP.tables eE below (T191.setTop (mkF mM 129 Ls184 [(.int (2 : Int32)), (.int (3 : Int32))])) _
      refine XS.icmpNo X191.here hx rfl (hb hby at_129) rfl (flt (by decide : ¬ ((3 : Int32) < (2 : Int32)))).1 ?_
      show Steps pP.tables eE below (T191.setTop (mkF mM 132 Ls184 [])) _
      refine XS.aload X191.here hx rfl (hb hby at_132) rfl rfl ?_
      show Steps pP.tables eE below (T191.setTop (mkF mM 134 Ls184 [(.ref b178)])) _
      refine st194.trans ?_
      exact kg)
    by_cases hn195 : (own_endOf [(p0 &&& (255 : Int32)), (p1 &&& (255 : Int32)), (p2 &&& (255 : Int32))] (own_dl p3) f tt + 1) ≤ tt
    · have f198 := (f187.keep Kq191)
      have f199 := (f188.keep Kq191 (ninS (Nat.ne_of_lt (Nat.lt_of_lt_of_le ((Sq15).1).lt (Nat.le_of_eq g178.symm))) nin0))
      have f200 := (f189.keep Kq191 (ninS (Nat.ne_of_lt (Nat.lt_of_lt_of_le ((Sq15).1).lt (Nat.le_of_eq g178.symm))) nin0))
      have f201 := (f190.keep Kq191 (ninS (Nat.ne_of_lt (Nat.lt_of_lt_of_le ((Sq15).2.2.2.1).lt (Nat.le_of_eq g178.symm))) nin0))
      obtain ⟨cq202, kq202, q202a, q202b, q202c⟩ := isOf hZ Kq194 q191_0
      obtain ⟨_, _, ⟨T202, L202, k202, n202⟩, -, X202, ⟨Lc202, hQ202, l202, y202, z202⟩, st202⟩ := X194.virtualBack hx (y := (⟨"com/example/resultwire/resultwire/er7/Pieces", "advance", "()V"⟩ : MethodName)) (z := (⟨"com/example/resultwire/resultwire/er7/Pieces", "advance", "()V"⟩ : MethodName)) hown (mvT hZ (w_54 hw)) (mvT hZ (w_55 hw)) (notFace_of_selects (args := #[]) (mvT hZ (w_57 hw))) (mvT hZ (w_57 hw)) (mvT hZ (w_56 hw)) (by decide) (backOf (W := 0) (rm_adv l Z a0 hw [] b178 b10 t15 kb15 ([(p0 &&& (255 : Int32)), (p1 &&& (255 : Int32)), (p2 &&& (255 : Int32))]) (own_dl p3) (own_endOf [(p0 &&& (255 : Int32)), (p1 &&& (255 : Int32)), (p2 &&& (255 : Int32))] (own_dl p3) f tt + 1) tt zc fm ((0 : Int32) + (1 : Int32)) (.int (Int32.ofNat f)) (.int (Int32.ofNat (own_endOf [(p0 &&& (255 : Int32)), (p1 &&& (255 : Int32)), (p2 &&& (255 : Int32))] (own_dl p3) f tt))) T191.heap n0 f193 q191_0 q191_1 q191_2 q191_3 q191_4 q191_5 q191_6 q191_7 g_b178 (⟨f198, f199, f200, f201, (Sq15).2.2.2.2⟩ : own_Str Z T191.heap b10 t15 kb15 [(p0 &&& (255 : Int32)), (p1 &&& (255 : Int32)), (p2 &&& (255 : Int32))]) (by omega : (own_endOf [(p0 &&& (255 : Int32)), (p1 &&& (255 : Int32)), (p2 &&& (255 : Int32))] (own_dl p3) f tt + 1) ≤ tt) (by omega : tt ≤ [(p0 &&& (255 : Int32)), (p1 &&& (255 : Int32)), (p2 &&& (255 : Int32))].length) (Nat.ne_of_lt (Nat.lt_of_lt_of_le ((Sq15).1).lt (Nat.le_of_eq g178.symm))) (Nat.ne_of_lt (Nat.lt_of_lt_of_le ((Sq15).2.2.2.1).lt (Nat.le_of_eq g178.symm))) S_COMPACT_STRINGS hp1 S_SIOOBE_FORMATTER hp3) hZ (w_58 hw) (w_32 hw) (by decide) (by decide)) q202a q202c (g := (mkF mM 142 Ls184 [(.ref b178)])) rfl (by rw [hml]; rfl) (Steps.refl _) (argsL := []) (rest := []) (lenOf pd_10 rfl) rfl (by show 2 * 0 + _ ≤ _; exact Nat.le_of_eq rfl) (hb hby at_142) (fun _ _ => ⟨rfl, Kq194, (by decide : 4 + 0 ≤ _), (by decide : 17 + 0 ≤ _)⟩)
      dsimp only [Pt.U, Pt.locs, Pt.cells, Pt.slots] at X202 l202 y202 z202 st202 hQ202
      subst l202 y202 z202
      obtain ⟨rfl, Nq202, Kq202, q202_0, q202_1, q202_2, q202_3, q202_4, q202_5, q202_6, q202_7⟩ := hQ202
      have N202 := Fr.app N191 Nq202
      have K203 : Keep h0 T202.heap [] := K192.trans Kq202 (allS (Or.inr sz_b178) all0)
      have f204 := (f193.keep Kq202 (allS g_b178 all0))
      obtain ⟨cq205, kq205, q205a, q205b, q205c⟩ := isOf hZ rfl q202_0
      obtain ⟨_, _, ⟨T205, L205, k205, n205⟩, -, X205, ⟨Lc205, hQ205, l205, y205, z205⟩, st205⟩ := X202.virtualBack hx (y := (⟨"com/example/resultwire/resultwire/er7/Pieces", "hasNext", "()Z"⟩ : MethodName)) (z := (⟨"com/example/resultwire/resultwire/er7/Pieces", "hasNext", "()Z"⟩ : MethodName)) hown (mvT hZ (w_49 hw)) (mvT hZ (w_50 hw)) (notFace_of_selects (args := #[]) (mvT hZ (w_52 hw))) (mvT hZ (w_52 hw)) (mvT hZ (w_51 hw)) (by decide) (backOf (W := 0) (rm_hn l Z a0 hw [] b178 (Int32.ofNat (own_endOf [(p0 &&& (255 : Int32)), (p1 &&& (255 : Int32)), (p2 &&& (255 : Int32))] (own_dl p3) (own_endOf [(p0 &&& (255 : Int32)), (p1 &&& (255 : Int32)), (p2 &&& (255 : Int32))] (own_dl p3) f tt + 1) tt + 1)) (Int32.ofNat tt) T202.heap n0 f204 q202_4 q202_3) hZ (w_53 hw) (w_32 hw) (by decide) (by decide)) q205a q205c (g := (mkF mM 153 Ls184 [(.ref b178)])) rfl (by rw [hml]; rfl) (Steps.refl _) (argsL := []) (rest := []) (lenOf pd_3 rfl) rfl (by show 2 * 0 + _ ≤ _; exact Nat.le_of_eq rfl) (hb hby at_153) (fun _ _ => ⟨rfl, rfl, (by decide : 4 + 0 ≤ _), (by decide : 17 + 0 ≤ _)⟩)
      dsimp only [Pt.U, Pt.locs, Pt.cells, Pt.slots] at X205 l205 y205 z205 st205 hQ205
      subst l205 y205 z205
      obtain ⟨rfl, rfl, Kq205⟩ := hQ205
      try rw [List.append_nil] at X205
      have bd207 := own_endOf_bd (cs := [(p0 &&& (255 : Int32)), (p1 &&& (255 : Int32)), (p2 &&& (255 : Int32))]) (d := own_dl p3) (f := (own_endOf [(p0 &&& (255 : Int32)), (p1 &&& (255 : Int32)), (p2 &&& (255 : Int32))] (own_dl p3) f tt + 1)) (t := tt) (by omega)
      have pre208 : ∀ tg, Steps pP.tables eE below (T205.setTop (mkF mM 156 Ls184 [(.int (own_hn (Int32.ofNat (own_endOf [(p0 &&& (255 : Int32)), (p1 &&& (255 : Int32)), (p2 &&& (255 : Int32))] (own_dl p3) (own_endOf [(p0 &&& (255 : Int32)), (p1 &&& (255 : Int32)), (p2 &&& (255 : Int32))] (own_dl p3) f tt + 1) tt + 1)) (Int32.ofNat tt)))])) tg → Steps pP.tables eE below (s₁.setTop (entryFrame mM #[(.int p0), (.int p1), (.int p2), (.int p3), (.int p4), (.int p5)] maxLocals)) tg := fun tg kg => pre197 tg (by
        refine XS.ifNo X194.here hx rfl (hb hby at_137) rfl ((if0 _ _).trans (feq (by rw [own_hn1 (own_nlt (by omega) (by omega))]; decide)).1) ?_
        show Steps pP.tables eE below (T194.setTop (mkF mM 140 Ls184 [])) _
        refine XS.aload X194.here hx rfl (hb hby at_140) rfl rfl ?_
        show Steps pP.tables eE below (T194.setTop (mkF mM 142 Ls184 [(.ref b178)])) _
        refine st202.trans ?_
        show Steps pP.tables eE below (T202.setTop (mkF mM 145 Ls184 [])) _
        refine XS.iload X202.here hx rfl (hb hby at_145) rfl ?_
        show Steps pP.tables eE below (T202.setTop (mkF mM 147 Ls184 [(.int (3 : Int32))])) _
        refine XS.iconst X202.here hx rfl (hb hby at_147) ?_
        show Steps pP.tables eE below (T202.setTop (mkF mM 148 Ls184 [(.int (3 : Int32)), (.int (3 : Int32))])) _
        refine XS.icmpNo X202.here hx rfl (hb hby at_148) rfl (flt (by decide : ¬ ((3 : Int32) < (3 : Int32)))).1 ?_
        show Steps pP.tables eE below (T202.setTop (mkF mM 151 Ls184 [])) _
        refine XS.aload X202.here hx rfl (hb hby at_151) rfl rfl ?_
        show Steps pP.tables eE below (T202.setTop (mkF mM 153 Ls184 [(.ref b178)])) _
        refine st205.trans ?_
        exact kg)
      by_cases hn206 : (own_endOf [(p0 &&& (255 : Int32)), (p1 &&& (255 : Int32)), (p2 &&& (255 : Int32))] (own_dl p3) (own_endOf [(p0 &&& (255 : Int32)), (p1 &&& (255 : Int32)), (p2 &&& (255 : Int32))] (own_dl p3) f tt + 1) tt + 1) ≤ tt
      · have f209 := (f198.keep Kq202)
        have f210 := (f199.keep Kq202 (ninS (Nat.ne_of_lt (Nat.lt_of_lt_of_le ((Sq15).1).lt (Nat.le_of_eq g178.symm))) nin0))
        have f211 := (f200.keep Kq202 (ninS (Nat.ne_of_lt (Nat.lt_of_lt_of_le ((Sq15).1).lt (Nat.le_of_eq g178.symm))) nin0))
        have f212 := (f201.keep Kq202 (ninS (Nat.ne_of_lt (Nat.lt_of_lt_of_le ((Sq15).2.2.2.1).lt (Nat.le_of_eq g178.symm))) nin0))
        obtain ⟨cq213, kq213, q213a, q213b, q213c⟩ := isOf hZ Kq205 q202_0
        obtain ⟨_, _, ⟨T213, L213, k213, n213⟩, -, X213, ⟨Lc213, hQ213, l213, y213, z213⟩, st213⟩ := X205.virtualBack hx (y := (⟨"com/example/resultwire/resultwire/er7/Pieces", "advance", "()V"⟩ : MethodName)) (z := (⟨"com/example/resultwire/resultwire/er7/Pieces", "advance", "()V"⟩ : MethodName)) hown (mvT hZ (w_54 hw)) (mvT hZ (w_55 hw)) (notFace_of_selects (args := #[]) (mvT hZ (w_57 hw))) (mvT hZ (w_57 hw)) (mvT hZ (w_56 hw)) (by decide) (backOf (W := 0) (rm_adv l Z a0 hw [] b178 b10 t15 kb15 ([(p0 &&& (255 : Int32)), (p1 &&& (255 : Int32)), (p2 &&& (255 : Int32))]) (own_dl p3) (own_endOf [(p0 &&& (255 : Int32)), (p1 &&& (255 : Int32)), (p2 &&& (255 : Int32))] (own_dl p3) (own_endOf [(p0 &&& (255 : Int32)), (p1 &&& (255 : Int32)), (p2 &&& (255 : Int32))] (own_dl p3) f tt + 1) tt + 1) tt zc fm (((0 : Int32) + (1 : Int32)) + (1 : Int32)) (.int (Int32.ofNat (own_endOf [(p0 &&& (255 : Int32)), (p1 &&& (255 : Int32)), (p2 &&& (255 : Int32))] (own_dl p3) f tt + 1))) (.int (Int32.ofNat (own_endOf [(p0 &&& (255 : Int32)), (p1 &&& (255 : Int32)), (p2 &&& (255 : Int32))] (own_dl p3) (own_endOf [(p0 &&& (255 : Int32)), (p1 &&& (255 : Int32)), (p2 &&& (255 : Int32))] (own_dl p3) f tt + 1) tt))) T202.heap n0 f204 q202_0 q202_1 q202_2 q202_3 q202_4 q202_5 q202_6 q202_7 g_b178 (⟨f209, f210, f211, f212, (Sq15).2.2.2.2⟩ : own_Str Z T202.heap b10 t15 kb15 [(p0 &&& (255 : Int32)), (p1 &&& (255 : Int32)), (p2 &&& (255 : Int32))]) (by omega : (own_endOf [(p0 &&& (255 : Int32)), (p1 &&& (255 : Int32)), (p2 &&& (255 : Int32))] (own_dl p3) (own_endOf [(p0 &&& (255 : Int32)), (p1 &&& (255 : Int32)), (p2 &&& (255 : Int32))] (own_dl p3) f tt + 1) tt + 1) ≤ tt) (by omega : tt ≤ [(p0 &&& (255 : Int32)), (p1 &&& (255 : Int32)), (p2 &&& (255 : Int32))].length) (Nat.ne_of_lt (Nat.lt_of_lt_of_le ((Sq15).1).lt (Nat.le_of_eq g178.symm))) (Nat.ne_of_lt (Nat.lt_of_lt_of_le ((Sq15).2.2.2.1).lt (Nat.le_of_eq g178.symm))) S_COMPACT_STRINGS hp1 S_SIOOBE_FORMATTER hp3) hZ (w_58 hw) (w_32 hw) (by decide) (by decide)) q213a q213c (g := (mkF mM 161 Ls184 [(.ref b178)])) rfl (by rw [hml]; rfl) (Steps.refl _) (argsL := []) (rest := []) (lenOf pd_10 rfl) rfl (by show 2 * 0 + _ ≤ _; exact Nat.le_of_eq rfl) (hb hby at_161) (fun _ _ => ⟨rfl, Kq205, (by decide : 4 + 0 ≤ _), (by decide : 17 + 0 ≤ _)⟩)
        dsimp only [Pt.U, Pt.locs, Pt.cells, Pt.slots] at X213 l213 y213 z213 st213 hQ213
        subst l213 y213 z213
        obtain ⟨rfl, Nq213, Kq213, q213_0, q213_1, q213_2, q213_3, q213_4, q213_5, q213_6, q213_7⟩ := hQ213
        have N213 := Fr.app N202 Nq213
        have K214 : Keep h0 T213.heap [] := K203.trans Kq213 (allS (Or.inr sz_b178) all0)
        obtain ⟨T215, X215, e215, st215⟩ := own_to X213 (h := T213.heap) (g := (mkF mM 164 Ls184 [])) (g' := (mkF mM 226 Ls184 [(.int (own_fd (own_dl p3) (Int32.ofNat f) (Int32.ofNat tt) (p0 &&& (255 : Int32)) (p1 &&& (255 : Int32)) (p2 &&& (255 : Int32))))])) (by
          have pre217 : ∀ tg, Steps pP.tables eE below (T213.setTop (mkF mM 167 Ls184 [(.int (-1 : Int32)), (.int (own_dl p3))])) tg → Steps pP.tables eE below (T213.setTop (mkF mM 164 Ls184 [])) tg := fun tg kg => (by
            refine XS.iload X213.here hx rfl (hb hby at_164) rfl ?_
            show Steps pP.tables eE below (T213.setTop (mkF mM 166 Ls184 [(.int (own_dl p3))])) _
            refine XS.iconst X213.here hx rfl (hb hby at_166) ?_
            exact kg)
          by_cases hc216 : (own_dl p3) = (-1 : Int32)
          · refine ⟨T213, X213, rfl, fun tg kg => ?_⟩
            rw [show (own_fd (own_dl p3) (Int32.ofNat f) (Int32.ofNat tt) (p0 &&& (255 : Int32)) (p1 &&& (255 : Int32)) (p2 &&& (255 : Int32))) = (0 : Int32) from by rw [own_fd, if_pos hc216]] at kg
            refine pre217 tg ?_
            refine XS.icmpYes X213.here hx rfl (pc0 := 167) (pc' := 225) rfl (hb hby at_167) rfl (teq hc216).1 (by decide) (by decide) ?_
            show Steps pP.tables eE below (T213.setTop (mkF mM 225 Ls184 [])) _
            refine XS.iconst X213.here hx rfl (hb hby at_225) ?_
            exact kg
          · have f219 := ((((((f14.keep Kq15 (ninS (Nat.ne_of_lt (Nat.lt_of_lt_of_le (Nat.lt_of_lt_of_le (Nat.lt_of_lt_of_le (Nat.lt_of_lt_of_le (V1).lt (Nat.le_of_eq W4.size.symm)) (Nat.le_of_eq W6.size.symm)) (Nat.le_of_eq W8.size.symm)) (Nat.le_of_eq g10.symm))) nin0)).ext E178).keep Kq182 (ninS (Nat.ne_of_lt (Nat.lt_of_lt_of_le (Nat.lt_of_lt_of_le (Nat.lt_of_lt_of_le (Nat.lt_of_lt_of_le (Nat.lt_of_lt_of_le (Nat.lt_of_lt_of_le (V1).lt (Nat.le_of_eq W4.size.symm)) (Nat.le_of_eq W6.size.symm)) (Nat.le_of_eq W8.size.symm)) E10.1) Kq15.1) (Nat.le_of_eq g178.symm))) nin0)).keep Kq191 (ninS (Nat.ne_of_lt (Nat.lt_of_lt_of_le (Nat.lt_of_lt_of_le (Nat.lt_of_lt_of_le (Nat.lt_of_lt_of_le (Nat.lt_of_lt_of_le (Nat.lt_of_lt_of_le (V1).lt (Nat.le_of_eq W4.size.symm)) (Nat.le_of_eq W6.size.symm)) (Nat.le_of_eq W8.size.symm)) E10.1) Kq15.1) (Nat.le_of_eq g178.symm))) nin0)).keep Kq202 (ninS (Nat.ne_of_lt (Nat.lt_of_lt_of_le (Nat.lt_of_lt_of_le (Nat.lt_of_lt_of_le (Nat.lt_of_lt_of_le (Nat.lt_of_lt_of_le (Nat.lt_of_lt_of_le (V1).lt (Nat.le_of_eq W4.size.symm)) (Nat.le_of_eq W6.size.symm)) (Nat.le_of_eq W8.size.symm)) E10.1) Kq15.1) (Nat.le_of_eq g178.symm))) nin0)).keep Kq213 (ninS (Nat.ne_of_lt (Nat.lt_of_lt_of_le (Nat.lt_of_lt_of_le (Nat.lt_of_lt_of_le (Nat.lt_of_lt_of_le (Nat.lt_of_lt_of_le (Nat.lt_of_lt_of_le (V1).lt (Nat.le_of_eq W4.size.symm)) (Nat.le_of_eq W6.size.symm)) (Nat.le_of_eq W8.size.symm)) E10.1) Kq15.1) (Nat.le_of_eq g178.symm))) nin0))
            obtain ⟨cl218, Ar218, -, S218, Nn218, Hh218, -⟩ := id f219
            have hin218 : ¬ ((0 : Int32) < 0 ∨ cl218.slots.size ≤ ((0 : Int32)).toNatClampNeg) := inb_of S218 ⟨by decide, by decide⟩
            have hat218 : cl218.slots[((0 : Int32)).toNatClampNeg]? = some (.int (p0 &&& (255 : Int32))) := Hh218.at hin218 rfl
            have f220 := (f204.keep Kq213 (allS g_b178 all0))
            obtain ⟨_, _, ⟨T221, L221, k221, n221⟩, -, X221, ⟨Lc221, hQ221, l221, y221, z221⟩, st221⟩ := Jvm.LawKit.callS X213 hx (y := (⟨"com/example/resultwire/resultwire/er7/PiecesIsSplitPinLaw", "hit", "(CIIII)Z"⟩ : MethodName)) hown (mvT hZ (w_75 hw)) (mvT hZ (w_76 hw)) (mvT hZ (w_77 hw)) (mvT hZ (w_78 hw)) (by decide) (backOf (W := 0) (rm_hit l Z a0 hw [] (p0 &&& (255 : Int32)) (0 : Int32) (Int32.ofNat f) (Int32.ofNat tt) (own_dl p3) T213.heap n0 f220 ) hZ (w_78 hw) (w_77 hw) (by decide) (by decide)) (g := (mkF mM 181 Ls184 [(.int (own_dl p3)), (.int (Int32.ofNat tt)), (.int (Int32.ofNat f)), (.int (0 : Int32)), (.int (p0 &&& (255 : Int32)))])) rfl (by rw [hml]; rfl) (argsL := [(.int (p0 &&& (255 : Int32))), (.int (0 : Int32)), (.int (Int32.ofNat f)), (.int (Int32.ofNat tt)), (.int (own_dl p3))]) (rest := []) (lenOf pd_9 rfl) rfl (by show 2 * 0 + _ ≤ _; exact Nat.le_of_eq rfl) (hb hby at_181) (fun _ _ => ⟨rfl, rfl, (by decide : 4 + 0 ≤ _), (by decide : 17 + 0 ≤ _)⟩)
            dsimp only [Pt.U, Pt.locs, Pt.cells, Pt.slots] at X221 l221 y221 z221 st221 hQ221
            subst l221 y221 z221
            obtain ⟨rfl, rfl, Kq221⟩ := hQ221
            try rw [List.append_nil] at X221
            have pre223 : ∀ tg, Steps pP.tables eE below (T221.setTop (mkF mM 184 Ls184 [(.int (own_hit (p0 &&& (255 : Int32)) (0 : Int32) (Int32.ofNat f) (Int32.ofNat tt) (own_dl p3)))])) tg → Steps pP.tables eE below (T213.setTop (mkF mM 164 Ls184 [])) tg := fun tg kg => pre217 tg (by
              refine XS.icmpNo X213.here hx rfl (hb hby at_167) rfl (feq hc216).1 ?_
              show Steps pP.tables eE below (T213.setTop (mkF mM 170 Ls184 [])) _
              refine XS.aload X213.here hx rfl (hb hby at_170) rfl rfl ?_
              show Steps pP.tables eE below (T213.setTop (mkF mM 172 Ls184 [(.ref b1)])) _
              refine XS.iconst X213.here hx rfl (hb hby at_172) ?_
              show Steps pP.tables eE below (T213.setTop (mkF mM 173 Ls184 [(.int (0 : Int32)), (.ref b1)])) _
              refine X213.caload hx (j := (0 : Int32)) (v := (.int (p0 &&& (255 : Int32)))) (Ar218.1) (State.isArrayOf_alike hZ.alike Ar218.2.1) Ar218.2.2 hin218 hat218 (g := (mkF mM 173 Ls184 [(.int (0 : Int32)), (.ref b1)])) rfl rfl (hb hby at_173) _ ?_
              show Steps pP.tables eE below (T213.setTop (mkF mM 174 Ls184 [(.int (p0 &&& (255 : Int32)))])) _
              refine XS.iconst X213.here hx rfl (hb hby at_174) ?_
              show Steps pP.tables eE below (T213.setTop (mkF mM 175 Ls184 [(.int (0 : Int32)), (.int (p0 &&& (255 : Int32)))])) _
              refine XS.iload X213.here hx rfl (hb hby at_175) rfl ?_
              show Steps pP.tables eE below (T213.setTop (mkF mM 177 Ls184 [(.int (Int32.ofNat f)), (.int (0 : Int32)), (.int (p0 &&& (255 : Int32)))])) _
              refine XS.iload X213.here hx rfl (hb hby at_177) rfl ?_
              show Steps pP.tables eE below (T213.setTop (mkF mM 179 Ls184 [(.int (Int32.ofNat tt)), (.int (Int32.ofNat f)), (.int (0 : Int32)), (.int (p0 &&& (255 : Int32)))])) _
              refine XS.iload X213.here hx rfl (hb hby at_179) rfl ?_
              show Steps pP.tables eE below (T213.setTop (mkF mM 181 Ls184 [(.int (own_dl p3)), (.int (Int32.ofNat tt)), (.int (Int32.ofNat f)), (.int (0 : Int32)), (.int (p0 &&& (255 : Int32)))])) _
              refine st221 _ ?_
              exact kg)
            by_cases hc222 : (own_hit (p0 &&& (255 : Int32)) (0 : Int32) (Int32.ofNat f) (Int32.ofNat tt) (own_dl p3)) = (0 : Int32)
            · obtain ⟨cl224, Ar224, -, S224, Nn224, Hh224, -⟩ := id f219
              have hin224 : ¬ ((1 : Int32) < 0 ∨ cl224.slots.size ≤ ((1 : Int32)).toNatClampNeg) := inb_of S224 ⟨by decide, by decide⟩
              have hat224 : cl224.slots[((1 : Int32)).toNatClampNeg]? = some (.int (p1 &&& (255 : Int32))) := Hh224.at hin224 rfl
              obtain ⟨_, _, ⟨T225, L225, k225, n225⟩, -, X225, ⟨Lc225, hQ225, l225, y225, z225⟩, st225⟩ := Jvm.LawKit.callS X221 hx (y := (⟨"com/example/resultwire/resultwire/er7/PiecesIsSplitPinLaw", "hit", "(CIIII)Z"⟩ : MethodName)) hown (mvT hZ (w_75 hw)) (mvT hZ (w_76 hw)) (mvT hZ (w_77 hw)) (mvT hZ (w_78 hw)) (by decide) (backOf (W := 0) (rm_hit l Z a0 hw [] (p1 &&& (255 : Int32)) (1 : Int32) (Int32.ofNat f) (Int32.ofNat tt) (own_dl p3) T213.heap n0 f220 ) hZ (w_78 hw) (w_77 hw) (by decide) (by decide)) (g := (mkF mM 198 Ls184 [(.int (own_dl p3)), (.int (Int32.ofNat tt)), (.int (Int32.ofNat f)), (.int (1 : Int32)), (.int (p1 &&& (255 : Int32)))])) rfl (by rw [hml]; rfl) (argsL := [(.int (p1 &&& (255 : Int32))), (.int (1 : Int32)), (.int (Int32.ofNat f)), (.int (Int32.ofNat tt)), (.int (own_dl p3))]) (rest := []) (lenOf pd_9 rfl) rfl (by show 2 * 0 + _ ≤ _; exact Nat.le_of_eq rfl) (hb hby at_198) (fun _ _ => ⟨rfl, Kq221, (by decide : 4 + 0 ≤ _), (by decide : 17 + 0 ≤ _)⟩)
              dsimp only [Pt.U, Pt.locs, Pt.cells, Pt.slots] at X225 l225 y225 z225 st225 hQ225
              subst l225 y225 z225
              obtain ⟨rfl, rfl, Kq225⟩ := hQ225
              try rw [List.append_nil] at X225
              have pre227 : ∀ tg, Steps pP.tables eE below (T225.setTop (mkF mM 201 Ls184 [(.int (own_hit (p1 &&& (255 : Int32)) (1 : Int32) (Int32.ofNat f) (Int32.ofNat tt) (own_dl p3)))])) tg → Steps pP.tables eE below (T213.setTop (mkF mM 164 Ls184 [])) tg := fun tg kg => pre223 tg (by
                refine XS.ifNo X221.here hx rfl (hb hby at_184) rfl ((if0 _ _).trans (teq hc222).2) ?_
                show Steps pP.tables eE below (T221.setTop (mkF mM 187 Ls184 [])) _
                refine XS.aload X221.here hx rfl (hb hby at_187) rfl rfl ?_
                show Steps pP.tables eE below (T221.setTop (mkF mM 189 Ls184 [(.ref b1)])) _
                refine XS.iconst X221.here hx rfl (hb hby at_189) ?_
                show Steps pP.tables eE below (T221.setTop (mkF mM 190 Ls184 [(.int (1 : Int32)), (.ref b1)])) _
                refine X221.caload hx (j := (1 : Int32)) (v := (.int (p1 &&& (255 : Int32)))) (by rw [Kq221]; exact Ar224.1) (State.isArrayOf_alike hZ.alike Ar224.2.1) Ar224.2.2 hin224 hat224 (g := (mkF mM 190 Ls184 [(.int (1 : Int32)), (.ref b1)])) rfl rfl (hb hby at_190) _ ?_
                show Steps pP.tables eE below (T221.setTop (mkF mM 191 Ls184 [(.int (p1 &&& (255 : Int32)))])) _
                refine XS.iconst X221.here hx rfl (hb hby at_191) ?_
                show Steps pP.tables eE below (T221.setTop (mkF mM 192 Ls184 [(.int (1 : Int32)), (.int (p1 &&& (255 : Int32)))])) _
                refine XS.iload X221.here hx rfl (hb hby at_192) rfl ?_
                show Steps pP.tables eE below (T221.setTop (mkF mM 194 Ls184 [(.int (Int32.ofNat f)), (.int (1 : Int32)), (.int (p1 &&& (255 : Int32)))])) _
                refine XS.iload X221.here hx rfl (hb hby at_194) rfl ?_
                show Steps pP.tables eE below (T221.setTop (mkF mM 196 Ls184 [(.int (Int32.ofNat tt)), (.int (Int32.ofNat f)), (.int (1 : Int32)), (.int (p1 &&& (255 : Int32)))])) _
                refine XS.iload X221.here hx rfl (hb hby at_196) rfl ?_
                show Steps pP.tables eE below (T221.setTop (mkF mM 198 Ls184 [(.int (own_dl p3)), (.int (Int32.ofNat tt)), (.int (Int32.ofNat f)), (.int (1 : Int32)), (.int (p1 &&& (255 : Int32)))])) _
                refine st225 _ ?_
                exact kg)
              by_cases hc226 : (own_hit (p1 &&& (255 : Int32)) (1 : Int32) (Int32.ofNat f) (Int32.ofNat tt) (own_dl p3)) = (0 : Int32)
              · obtain ⟨cl228, Ar228, -, S228, Nn228, Hh228, -⟩ := id f219
                have hin228 : ¬ ((2 : Int32) < 0 ∨ cl228.slots.size ≤ ((2 : Int32)).toNatClampNeg) := inb_of S228 ⟨by decide, by decide⟩
                have hat228 : cl228.slots[((2 : Int32)).toNatClampNeg]? = some (.int (p2 &&& (255 : Int32))) := Hh228.at hin228 rfl
                obtain ⟨_, _, ⟨T229, L229, k229, n229⟩, -, X229, ⟨Lc229, hQ229, l229, y229, z229⟩, st229⟩ := Jvm.LawKit.callS X225 hx (y := (⟨"com/example/resultwire/resultwire/er7/PiecesIsSplitPinLaw", "hit", "(CIIII)Z"⟩ : MethodName)) hown (mvT hZ (w_75 hw)) (mvT hZ (w_76 hw)) (mvT hZ (w_77 hw)) (mvT hZ (w_78 hw)) (by decide) (backOf (W := 0) (rm_hit l Z a0 hw [] (p2 &&& (255 : Int32)) (2 : Int32) (Int32.ofNat f) (Int32.ofNat tt) (own_dl p3) T213.heap n0 f220 ) hZ (w_78 hw) (w_77 hw) (by decide) (by decide)) (g := (mkF mM 215 Ls184 [(.int (own_dl p3)), (.int (Int32.ofNat tt)), (.int (Int32.ofNat f)), (.int (2 : Int32)), (.int (p2 &&& (255 : Int32)))])) rfl (by rw [hml]; rfl) (argsL := [(.int (p2 &&& (255 : Int32))), (.int (2 : Int32)), (.int (Int32.ofNat f)), (.int (Int32.ofNat tt)), (.int (own_dl p3))]) (rest := []) (lenOf pd_9 rfl) rfl (by show 2 * 0 + _ ≤ _; exact Nat.le_of_eq rfl) (hb hby at_215) (fun _ _ => ⟨rfl, Kq225, (by decide : 4 + 0 ≤ _), (by decide : 17 + 0 ≤ _)⟩)
                dsimp only [Pt.U, Pt.locs, Pt.cells, Pt.slots] at X229 l229 y229 z229 st229 hQ229
                subst l229 y229 z229
                obtain ⟨rfl, rfl, Kq229⟩ := hQ229
                try rw [List.append_nil] at X229
                have pre231 : ∀ tg, Steps pP.tables eE below (T229.setTop (mkF mM 218 Ls184 [(.int (own_hit (p2 &&& (255 : Int32)) (2 : Int32) (Int32.ofNat f) (Int32.ofNat tt) (own_dl p3)))])) tg → Steps pP.tables eE below (T213.setTop (mkF mM 164 Ls184 [])) tg := fun tg kg => pre227 tg (by
                  refine XS.ifNo X225.here hx rfl (hb hby at_201) rfl ((if0 _ _).trans (teq hc226).2) ?_
                  show Steps pP.tables eE below (T225.setTop (mkF mM 204 Ls184 [])) _
                  refine XS.aload X225.here hx rfl (hb hby at_204) rfl rfl ?_
                  show Steps pP.tables eE below (T225.setTop (mkF mM 206 Ls184 [(.ref b1)])) _
                  refine XS.iconst X225.here hx rfl (hb hby at_206) ?_
                  show Steps pP.tables eE below (T225.setTop (mkF mM 207 Ls184 [(.int (2 : Int32)), (.ref b1)])) _
                  refine X225.caload hx (j := (2 : Int32)) (v := (.int (p2 &&& (255 : Int32)))) (by rw [Kq225]; exact Ar228.1) (State.isArrayOf_alike hZ.alike Ar228.2.1) Ar228.2.2 hin228 hat228 (g := (mkF mM 207 Ls184 [(.int (2 : Int32)), (.ref b1)])) rfl rfl (hb hby at_207) _ ?_
                  show Steps pP.tables eE below (T225.setTop (mkF mM 208 Ls184 [(.int (p2 &&& (255 : Int32)))])) _
                  refine XS.iconst X225.here hx rfl (hb hby at_208) ?_
                  show Steps pP.tables eE below (T225.setTop (mkF mM 209 Ls184 [(.int (2 : Int32)), (.int (p2 &&& (255 : Int32)))])) _
                  refine XS.iload X225.here hx rfl (hb hby at_209) rfl ?_
                  show Steps pP.tables eE below (T225.setTop (mkF mM 211 Ls184 [(.int (Int32.ofNat f)), (.int (2 : Int32)), (.int (p2 &&& (255 : Int32)))])) _
                  refine XS.iload X225.here hx rfl (hb hby at_211) rfl ?_
                  show Steps pP.tables eE below (T225.setTop (mkF mM 213 Ls184 [(.int (Int32.ofNat tt)), (.int (Int32.ofNat f)), (.int (2 : Int32)), (.int (p2 &&& (255 : Int32)))])) _
                  refine XS.iload X225.here hx rfl (hb hby at_213) rfl ?_
                  show Steps pP.tables eE below (T225.setTop (mkF mM 215 Ls184 [(.int (own_dl p3)), (.int (Int32.ofNat tt)), (.int (Int32.ofNat f)), (.int (2 : Int32)), (.int (p2 &&& (255 : Int32)))])) _
                  refine st229 _ ?_
                  exact kg)
                by_cases hc230 : (own_hit (p2 &&& (255 : Int32)) (2 : Int32) (Int32.ofNat f) (Int32.ofNat tt) (own_dl p3)) = (0 : Int32)
                · refine ⟨T229, X229, Kq229, fun tg kg => ?_⟩
                  rw [show (own_fd (own_dl p3) (Int32.ofNat f) (Int32.ofNat tt) (p0 &&& (255 : Int32)) (p1 &&& (255 : Int32)) (p2 &&& (255 : Int32))) = (0 : Int32) from by rw [own_fd, if_neg hc216, if_pos hc222, if_pos hc226, if_pos hc230]] at kg
                  refine pre231 tg ?_
                  refine XS.ifYes X229.here hx rfl (pc0 := 218) (pc' := 225) rfl (hb hby at_218) rfl ((if0 _ _).trans (teq hc230).1) (by decide) (by decide) ?_
                  show Steps pP.tables eE below (T229.setTop (mkF mM 225 Ls184 [])) _
                  refine XS.iconst X229.here hx rfl (hb hby at_225) ?_
                  exact kg
                · refine ⟨T229, X229, Kq229, fun tg kg => ?_⟩
                  rw [show (own_fd (own_dl p3) (Int32.ofNat f) (Int32.ofNat tt) (p0 &&& (255 : Int32)) (p1 &&& (255 : Int32)) (p2 &&& (255 : Int32))) = (1 : Int32) from by rw [own_fd, if_neg hc216, if_pos hc222, if_pos hc226, if_neg hc230]] at kg
                  refine pre231 tg ?_
                  refine XS.ifNo X229.here hx rfl (hb hby at_218) rfl ((if0 _ _).trans (feq hc230).1) ?_
                  show Steps pP.tables eE below (T229.setTop (mkF mM 221 Ls184 [])) _
                  refine XS.iconst X229.here hx rfl (hb hby at_221) ?_
                  show Steps pP.tables eE below (T229.setTop (mkF mM 222 Ls184 [(.int (1 : Int32))])) _
                  refine XS.goto X229.here hx rfl (pc0 := 222) (pc' := 226) rfl (hb hby at_222) (by decide) (by decide) ?_
                  exact kg
              · refine ⟨T225, X225, Kq225, fun tg kg => ?_⟩
                rw [show (own_fd (own_dl p3) (Int32.ofNat f) (Int32.ofNat tt) (p0 &&& (255 : Int32)) (p1 &&& (255 : Int32)) (p2 &&& (255 : Int32))) = (1 : Int32) from by rw [own_fd, if_neg hc216, if_pos hc222, if_neg hc226]] at kg
                refine pre227 tg ?_
                refine XS.ifYes X225.here hx rfl (pc0 := 201) (pc' := 221) rfl (hb hby at_201) rfl ((if0 _ _).trans (feq hc226).2) (by decide) (by decide) ?_
                show Steps pP.tables eE below (T225.setTop (mkF mM 221 Ls184 [])) _
                refine XS.iconst X225.here hx rfl (hb hby at_221) ?_
                show Steps pP.tables eE below (T225.setTop (mkF mM 222 Ls184 [(.int (1 : Int32))])) _
                refine XS.goto X225.here hx rfl (pc0 := 222) (pc' := 226) rfl (hb hby at_222) (by decide) (by decide) ?_
                exact kg
            · refine ⟨T221, X221, Kq221, fun tg kg => ?_⟩
              rw [show (own_fd (own_dl p3) (Int32.ofNat f) (Int32.ofNat tt) (p0 &&& (255 : Int32)) (p1 &&& (255 : Int32)) (p2 &&& (255 : Int32))) = (1 : Int32) from by rw [own_fd, if_neg hc216, if_neg hc222]] at kg
              refine pre223 tg ?_
              refine XS.ifYes X221.here hx rfl (pc0 := 184) (pc' := 221) rfl (hb hby at_184) rfl ((if0 _ _).trans (feq hc222).2) (by decide) (by decide) ?_
              show Steps pP.tables eE below (T221.setTop (mkF mM 221 Ls184 [])) _
              refine XS.iconst X221.here hx rfl (hb hby at_221) ?_
              show Steps pP.tables eE below (T221.setTop (mkF mM 222 Ls184 [(.int (1 : Int32))])) _
              refine XS.goto X221.here hx rfl (pc0 := 222) (pc' := 226) rfl (hb hby at_222) (by decide) (by decide) ?_
              exact kg)
        let Ls232 : Array Slot := #[.val (.int p0), .val (.int p1), .val (.int p2), .val (.int p3), .val (.int p4), .val (.int p5), .val (.ref b1), .val (.ref b10), .val (.int (own_dl p3)), .val (.int (Int32.ofNat tt)), .val (.int (Int32.ofNat f)), .val (.int (3 : Int32)), .val (.ref b178), .val (.int (own_fd (own_dl p3) (Int32.ofNat f) (Int32.ofNat tt) (p0 &&& (255 : Int32)) (p1 &&& (255 : Int32)) (p2 &&& (255 : Int32)))), .unset]
        have pre234 : ∀ tg, Steps pP.tables eE below (T215.setTop (mkF mM 236 Ls232 [(.int (own_fd (own_dl p3) (Int32.ofNat f) (Int32.ofNat tt) (p0 &&& (255 : Int32)) (p1 &&& (255 : Int32)) (p2 &&& (255 : Int32))))])) tg → Steps pP.tables eE below (s₁.setTop (entryFrame mM #[(.int p0), (.int p1), (.int p2), (.int p3), (.int p4), (.int p5)] maxLocals)) tg := fun tg kg => pre208 tg (by
          refine XS.ifNo X205.here hx rfl (hb hby at_156) rfl ((if0 _ _).trans (feq (by rw [own_hn1 (own_nlt (by omega) (by omega))]; decide)).1) ?_
          show Steps pP.tables eE below (T205.setTop (mkF mM 159 Ls184 [])) _
          refine XS.aload X205.here hx rfl (hb hby at_159) rfl rfl ?_
          show Steps pP.tables eE below (T205.setTop (mkF mM 161 Ls184 [(.ref b178)])) _
          refine st213.trans ?_
          show Steps pP.tables eE below (T213.setTop (mkF mM 164 Ls184 [])) _
          refine st215 _ ?_
          show Steps pP.tables eE below (T215.setTop (mkF mM 226 Ls184 [(.int (own_fd (own_dl p3) (Int32.ofNat f) (Int32.ofNat tt) (p0 &&& (255 : Int32)) (p1 &&& (255 : Int32)) (p2 &&& (255 : Int32))))])) _
          refine XS.istore X215.here hx rfl (hb hby at_226) rfl (l' := Ls232) rfl ?_
          show Steps pP.tables eE below (T215.setTop (mkF mM 228 Ls232 [])) _
          refine XS.iload X215.here hx rfl (hb hby at_228) rfl ?_
          show Steps pP.tables eE below (T215.setTop (mkF mM 230 Ls232 [(.int (3 : Int32))])) _
          refine XS.iconst X215.here hx rfl (hb hby at_230) ?_
          show Steps pP.tables eE below (T215.setTop (mkF mM 231 Ls232 [(.int (1 : Int32)), (.int (3 : Int32))])) _
          refine XS.icmpNo X215.here hx rfl (hb hby at_231) rfl (flt (by decide : ¬ ((3 : Int32) < (1 : Int32)))).1 ?_
          show Steps pP.tables eE below (T215.setTop (mkF mM 234 Ls232 [])) _
          refine XS.iload X215.here hx rfl (hb hby at_234) rfl ?_
          exact kg)
        by_cases hc233 : (own_fd (own_dl p3) (Int32.ofNat f) (Int32.ofNat tt) (p0 &&& (255 : Int32)) (p1 &&& (255 : Int32)) (p2 &&& (255 : Int32))) = (0 : Int32)
        · let Ls235 : Array Slot := #[.val (.int p0), .val (.int p1), .val (.int p2), .val (.int p3), .val (.int p4), .val (.int p5), .val (.ref b1), .val (.ref b10), .val (.int (own_dl p3)), .val (.int (Int32.ofNat tt)), .val (.int (Int32.ofNat f)), .val (.int (3 : Int32)), .val (.ref b178), .val (.int (own_fd (own_dl p3) (Int32.ofNat f) (Int32.ofNat tt) (p0 &&& (255 : Int32)) (p1 &&& (255 : Int32)) (p2 &&& (255 : Int32)))), .val (.int (0 : Int32))]
          have f236 := (f204.keep Kq213 (allS g_b178 all0))
          obtain ⟨cq237, kq237, q237a, q237b, q237c⟩ := isOf hZ e215 q213_0
          obtain ⟨_, _, ⟨T237, L237, k237, n237⟩, -, X237, ⟨Lc237, hQ237, l237, y237, z237⟩, st237⟩ := X215.virtualBack hx (y := (⟨"com/example/resultwire/resultwire/er7/Pieces", "isSplit", "()Z"⟩ : MethodName)) (z := (⟨"com/example/resultwire/resultwire/er7/Pieces", "isSplit", "()Z"⟩ : MethodName)) hown (mvT hZ (w_79 hw)) (mvT hZ (w_80 hw)) (notFace_of_selects (args := #[]) (mvT hZ (w_82 hw))) (mvT hZ (w_82 hw)) (mvT hZ (w_81 hw)) (by decide) (backOf (W := 0) (rm_isp l Z a0 hw [] b178 ((((0 : Int32) + (1 : Int32)) + (1 : Int32)) + (1 : Int32)) (Int32.ofNat (own_endOf [(p0 &&& (255 : Int32)), (p1 &&& (255 : Int32)), (p2 &&& (255 : Int32))] (own_dl p3) (own_endOf [(p0 &&& (255 : Int32)), (p1 &&& (255 : Int32)), (p2 &&& (255 : Int32))] (own_dl p3) (own_endOf [(p0 &&& (255 : Int32)), (p1 &&& (255 : Int32)), (p2 &&& (255 : Int32))] (own_dl p3) f tt + 1) tt + 1) tt)) (Int32.ofNat tt) T213.heap n0 f236 q213_7 q213_6 q213_3) hZ (w_83 hw) (w_32 hw) (by decide) (by decide)) q237a q237c (g := (mkF mM 248 Ls235 [(.ref b178)])) rfl (by rw [hml]; rfl) (Steps.refl _) (argsL := []) (rest := []) (lenOf pd_3 rfl) rfl (by show 2 * 0 + _ ≤ _; exact Nat.le_of_eq rfl) (hb hby at_248) (fun _ _ => ⟨rfl, e215, (by decide : 4 + 0 ≤ _), (by decide : 17 + 0 ≤ _)⟩)
          dsimp only [Pt.U, Pt.locs, Pt.cells, Pt.slots] at X237 l237 y237 z237 st237 hQ237
          subst l237 y237 z237
          obtain ⟨rfl, rfl, Kq237⟩ := hQ237
          try rw [List.append_nil] at X237
          exact absurd (own_fd0 hft htt |>.mp hc233) (by omega)
        · let Ls238 : Array Slot := #[.val (.int p0), .val (.int p1), .val (.int p2), .val (.int p3), .val (.int p4), .val (.int p5), .val (.ref b1), .val (.ref b10), .val (.int (own_dl p3)), .val (.int (Int32.ofNat tt)), .val (.int (Int32.ofNat f)), .val (.int (3 : Int32)), .val (.ref b178), .val (.int (own_fd (own_dl p3) (Int32.ofNat f) (Int32.ofNat tt) (p0 &&& (255 : Int32)) (p1 &&& (255 : Int32)) (p2 &&& (255 : Int32)))), .val (.int (1 : Int32))]
          have f239 := (f204.keep Kq213 (allS g_b178 all0))
          obtain ⟨cq240, kq240, q240a, q240b, q240c⟩ := isOf hZ e215 q213_0
          obtain ⟨_, _, ⟨T240, L240, k240, n240⟩, -, X240, ⟨Lc240, hQ240, l240, y240, z240⟩, st240⟩ := X215.virtualBack hx (y := (⟨"com/example/resultwire/resultwire/er7/Pieces", "isSplit", "()Z"⟩ : MethodName)) (z := (⟨"com/example/resultwire/resultwire/er7/Pieces", "isSplit", "()Z"⟩ : MethodName)) hown (mvT hZ (w_79 hw)) (mvT hZ (w_80 hw)) (notFace_of_selects (args := #[]) (mvT hZ (w_82 hw))) (mvT hZ (w_82 hw)) (mvT hZ (w_81 hw)) (by decide) (backOf (W := 0) (rm_isp l Z a0 hw [] b178 ((((0 : Int32) + (1 : Int32)) + (1 : Int32)) + (1 : Int32)) (Int32.ofNat (own_endOf [(p0 &&& (255 : Int32)), (p1 &&& (255 : Int32)), (p2 &&& (255 : Int32))] (own_dl p3) (own_endOf [(p0 &&& (255 : Int32)), (p1 &&& (255 : Int32)), (p2 &&& (255 : Int32))] (own_dl p3) (own_endOf [(p0 &&& (255 : Int32)), (p1 &&& (255 : Int32)), (p2 &&& (255 : Int32))] (own_dl p3) f tt + 1) tt + 1) tt)) (Int32.ofNat tt) T213.heap n0 f239 q213_7 q213_6 q213_3) hZ (w_83 hw) (w_32 hw) (by decide) (by decide)) q240a q240c (g := (mkF mM 248 Ls238 [(.ref b178)])) rfl (by rw [hml]; rfl) (Steps.refl _) (argsL := []) (rest := []) (lenOf pd_3 rfl) rfl (by show 2 * 0 + _ ≤ _; exact Nat.le_of_eq rfl) (hb hby at_248) (fun _ _ => ⟨rfl, e215, (by decide : 4 + 0 ≤ _), (by decide : 17 + 0 ≤ _)⟩)
          dsimp only [Pt.U, Pt.locs, Pt.cells, Pt.slots] at X240 l240 y240 z240 st240 hQ240
          subst l240 y240 z240
          obtain ⟨rfl, rfl, Kq240⟩ := hQ240
          try rw [List.append_nil] at X240
          obtain ⟨fs, hr, hrun, hended, hW, hsame⟩ := X240.leave (v := some (.int (1 : Int32))) (fun h => by rw [Bd.returns] at h; cases h)
          refine ⟨_, _, pre234 _ ?_, hrun, hended, _, _, rfl, ?_, ⟨_, rfl⟩, hW, hsame.mono (by decide) (by decide)⟩
          · refine XS.ifNo X215.here hx rfl (hb hby at_236) rfl ((if0 _ _).trans (feq hc233).1) ?_
            show Steps pP.tables eE below (T215.setTop (mkF mM 239 Ls232 [])) _
            refine XS.iconst X215.here hx rfl (hb hby at_239) ?_
            show Steps pP.tables eE below (T215.setTop (mkF mM 240 Ls232 [(.int (1 : Int32))])) _
            refine XS.goto X215.here hx rfl (pc0 := 240) (pc' := 244) rfl (hb hby at_240) (by decide) (by decide) ?_
            show Steps pP.tables eE below (T215.setTop (mkF mM 244 Ls232 [(.int (1 : Int32))])) _
            refine XS.istore X215.here hx rfl (hb hby at_244) rfl (l' := Ls238) rfl ?_
            show Steps pP.tables eE below (T215.setTop (mkF mM 246 Ls238 [])) _
            refine XS.aload X215.here hx rfl (hb hby at_246) rfl rfl ?_
            show Steps pP.tables eE below (T215.setTop (mkF mM 248 Ls238 [(.ref b178)])) _
            refine st240.trans ?_
            show Steps pP.tables eE below (T240.setTop (mkF mM 251 Ls238 [(.int (own_is ((((0 : Int32) + (1 : Int32)) + (1 : Int32)) + (1 : Int32)) (Int32.ofNat (own_endOf [(p0 &&& (255 : Int32)), (p1 &&& (255 : Int32)), (p2 &&& (255 : Int32))] (own_dl p3) (own_endOf [(p0 &&& (255 : Int32)), (p1 &&& (255 : Int32)), (p2 &&& (255 : Int32))] (own_dl p3) (own_endOf [(p0 &&& (255 : Int32)), (p1 &&& (255 : Int32)), (p2 &&& (255 : Int32))] (own_dl p3) f tt + 1) tt + 1) tt)) (Int32.ofNat tt)))])) _
            refine XS.iload X240.here hx rfl (hb hby at_251) rfl ?_
            show Steps pP.tables eE below (T240.setTop (mkF mM 253 Ls238 [(.int (1 : Int32)), (.int (own_is ((((0 : Int32) + (1 : Int32)) + (1 : Int32)) + (1 : Int32)) (Int32.ofNat (own_endOf [(p0 &&& (255 : Int32)), (p1 &&& (255 : Int32)), (p2 &&& (255 : Int32))] (own_dl p3) (own_endOf [(p0 &&& (255 : Int32)), (p1 &&& (255 : Int32)), (p2 &&& (255 : Int32))] (own_dl p3) (own_endOf [(p0 &&& (255 : Int32)), (p1 &&& (255 : Int32)), (p2 &&& (255 : Int32))] (own_dl p3) f tt + 1) tt + 1) tt)) (Int32.ofNat tt)))])) _
            refine XS.icmpNo X240.here hx rfl (hb hby at_253) rfl (teq (own_is3 _ _)).2 ?_
            show Steps pP.tables eE below (T240.setTop (mkF mM 256 Ls238 [])) _
            refine XS.iconst X240.here hx rfl (hb hby at_256) ?_
            show Steps pP.tables eE below (T240.setTop (mkF mM 257 Ls238 [(.int (1 : Int32))])) _
            refine XS.goto X240.here hx rfl (pc0 := 257) (pc' := 261) rfl (hb hby at_257) (by decide) (by decide) ?_
            show Steps pP.tables eE below (T240.setTop (mkF mM 261 Ls238 [(.int (1 : Int32))])) _
            exact retN X240 hx (t := .boolean) Bd.returns (by simp) (hb hby at_261) hr
          · show Q_law Z p0 p1 p2 p3 p4 p5 zc fm h0 n0 _ T240.heap _
            rw [Kq240]
            exact ⟨rfl, N213, K214⟩
      · obtain ⟨T242, X242, e242, st242⟩ := own_to X205 (h := T202.heap) (g := (mkF mM 164 Ls184 [])) (g' := (mkF mM 226 Ls184 [(.int (own_fd (own_dl p3) (Int32.ofNat f) (Int32.ofNat tt) (p0 &&& (255 : Int32)) (p1 &&& (255 : Int32)) (p2 &&& (255 : Int32))))])) (by
          have pre244 : ∀ tg, Steps pP.tables eE below (T205.setTop (mkF mM 167 Ls184 [(.int (-1 : Int32)), (.int (own_dl p3))])) tg → Steps pP.tables eE below (T205.setTop (mkF mM 164 Ls184 [])) tg := fun tg kg => (by
            refine XS.iload X205.here hx rfl (hb hby at_164) rfl ?_
            show Steps pP.tables eE below (T205.setTop (mkF mM 166 Ls184 [(.int (own_dl p3))])) _
            refine XS.iconst X205.here hx rfl (hb hby at_166) ?_
            exact kg)
          by_cases hc243 : (own_dl p3) = (-1 : Int32)
          · refine ⟨T205, X205, Kq205, fun tg kg => ?_⟩
            rw [show (own_fd (own_dl p3) (Int32.ofNat f) (Int32.ofNat tt) (p0 &&& (255 : Int32)) (p1 &&& (255 : Int32)) (p2 &&& (255 : Int32))) = (0 : Int32) from by rw [own_fd, if_pos hc243]] at kg
            refine pre244 tg ?_
            refine XS.icmpYes X205.here hx rfl (pc0 := 167) (pc' := 225) rfl (hb hby at_167) rfl (teq hc243).1 (by decide) (by decide) ?_
            show Steps pP.tables eE below (T205.setTop (mkF mM 225 Ls184 [])) _
            refine XS.iconst X205.here hx rfl (hb hby at_225) ?_
            exact kg
          · have f246 := (((((f14.keep Kq15 (ninS (Nat.ne_of_lt (Nat.lt_of_lt_of_le (Nat.lt_of_lt_of_le (Nat.lt_of_lt_of_le (Nat.lt_of_lt_of_le (V1).lt (Nat.le_of_eq W4.size.symm)) (Nat.le_of_eq W6.size.symm)) (Nat.le_of_eq W8.size.symm)) (Nat.le_of_eq g10.symm))) nin0)).ext E178).keep Kq182 (ninS (Nat.ne_of_lt (Nat.lt_of_lt_of_le (Nat.lt_of_lt_of_le (Nat.lt_of_lt_of_le (Nat.lt_of_lt_of_le (Nat.lt_of_lt_of_le (Nat.lt_of_lt_of_le (V1).lt (Nat.le_of_eq W4.size.symm)) (Nat.le_of_eq W6.size.symm)) (Nat.le_of_eq W8.size.symm)) E10.1) Kq15.1) (Nat.le_of_eq g178.symm))) nin0)).keep Kq191 (ninS (Nat.ne_of_lt (Nat.lt_of_lt_of_le (Nat.lt_of_lt_of_le (Nat.lt_of_lt_of_le (Nat.lt_of_lt_of_le (Nat.lt_of_lt_of_le (Nat.lt_of_lt_of_le (V1).lt (Nat.le_of_eq W4.size.symm)) (Nat.le_of_eq W6.size.symm)) (Nat.le_of_eq W8.size.symm)) E10.1) Kq15.1) (Nat.le_of_eq g178.symm))) nin0)).keep Kq202 (ninS (Nat.ne_of_lt (Nat.lt_of_lt_of_le (Nat.lt_of_lt_of_le (Nat.lt_of_lt_of_le (Nat.lt_of_lt_of_le (Nat.lt_of_lt_of_le (Nat.lt_of_lt_of_le (V1).lt (Nat.le_of_eq W4.size.symm)) (Nat.le_of_eq W6.size.symm)) (Nat.le_of_eq W8.size.symm)) E10.1) Kq15.1) (Nat.le_of_eq g178.symm))) nin0))
            obtain ⟨cl245, Ar245, -, S245, Nn245, Hh245, -⟩ := id f246
            have hin245 : ¬ ((0 : Int32) < 0 ∨ cl245.slots.size ≤ ((0 : Int32)).toNatClampNeg) := inb_of S245 ⟨by decide, by decide⟩
            have hat245 : cl245.slots[((0 : Int32)).toNatClampNeg]? = some (.int (p0 &&& (255 : Int32))) := Hh245.at hin245 rfl
            obtain ⟨_, _, ⟨T247, L247, k247, n247⟩, -, X247, ⟨Lc247, hQ247, l247, y247, z247⟩, st247⟩ := Jvm.LawKit.callS X205 hx (y := (⟨"com/example/resultwire/resultwire/er7/PiecesIsSplitPinLaw", "hit", "(CIIII)Z"⟩ : MethodName)) hown (mvT hZ (w_75 hw)) (mvT hZ (w_76 hw)) (mvT hZ (w_77 hw)) (mvT hZ (w_78 hw)) (by decide) (backOf (W := 0) (rm_hit l Z a0 hw [] (p0 &&& (255 : Int32)) (0 : Int32) (Int32.ofNat f) (Int32.ofNat tt) (own_dl p3) T202.heap n0 f204 ) hZ (w_78 hw) (w_77 hw) (by decide) (by decide)) (g := (mkF mM 181 Ls184 [(.int (own_dl p3)), (.int (Int32.ofNat tt)), (.int (Int32.ofNat f)), (.int (0 : Int32)), (.int (p0 &&& (255 : Int32)))])) rfl (by rw [hml]; rfl) (argsL := [(.int (p0 &&& (255 : Int32))), (.int (0 : Int32)), (.int (Int32.ofNat f)), (.int (Int32.ofNat tt)), (.int (own_dl p3))]) (rest := []) (lenOf pd_9 rfl) rfl (by show 2 * 0 + _ ≤ _; exact Nat.le_of_eq rfl) (hb hby at_181) (fun _ _ => ⟨rfl, Kq205, (by decide : 4 + 0 ≤ _), (by decide : 17 + 0 ≤ _)⟩)
            dsimp only [Pt.U, Pt.locs, Pt.cells, Pt.slots] at X247 l247 y247 z247 st247 hQ247
            subst l247 y247 z247
            obtain ⟨rfl, rfl, Kq247⟩ := hQ247
            try rw [List.append_nil] at X247
            have pre249 : ∀ tg, Steps pP.tables eE below (T247.setTop (mkF mM 184 Ls184 [(.int (own_hit (p0 &&& (255 : Int32)) (0 : Int32) (Int32.ofNat f) (Int32.ofNat tt) (own_dl p3)))])) tg → Steps pP.tables eE below (T205.setTop (mkF mM 164 Ls184 [])) tg := fun tg kg => pre244 tg (by
              refine XS.icmpNo X205.here hx rfl (hb hby at_167) rfl (feq hc243).1 ?_
              show Steps pP.tables eE below (T205.setTop (mkF mM 170 Ls184 [])) _
              refine XS.aload X205.here hx rfl (hb hby at_170) rfl rfl ?_
              show Steps pP.tables eE below (T205.setTop (mkF mM 172 Ls184 [(.ref b1)])) _
              refine XS.iconst X205.here hx rfl (hb hby at_172) ?_
              show Steps pP.tables eE below (T205.setTop (mkF mM 173 Ls184 [(.int (0 : Int32)), (.ref b1)])) _
              refine X205.caload hx (j := (0 : Int32)) (v := (.int (p0 &&& (255 : Int32)))) (by rw [Kq205]; exact Ar245.1) (State.isArrayOf_alike hZ.alike Ar245.2.1) Ar245.2.2 hin245 hat245 (g := (mkF mM 173 Ls184 [(.int (0 : Int32)), (.ref b1)])) rfl rfl (hb hby at_173) _ ?_
              show Steps pP.tables eE below (T205.setTop (mkF mM 174 Ls184 [(.int (p0 &&& (255 : Int32)))])) _
              refine XS.iconst X205.here hx rfl (hb hby at_174) ?_
              show Steps pP.tables eE below (T205.setTop (mkF mM 175 Ls184 [(.int (0 : Int32)), (.int (p0 &&& (255 : Int32)))])) _
              refine XS.iload X205.here hx rfl (hb hby at_175) rfl ?_
              show Steps pP.tables eE below (T205.setTop (mkF mM 177 Ls184 [(.int (Int32.ofNat f)), (.int (0 : Int32)), (.int (p0 &&& (255 : Int32)))])) _
              refine XS.iload X205.here hx rfl (hb hby at_177) rfl ?_
              show Steps pP.tables eE below (T205.setTop (mkF mM 179 Ls184 [(.int (Int32.ofNat tt)), (.int (Int32.ofNat f)), (.int (0 : Int32)), (.int (p0 &&& (255 : Int32)))])) _
              refine XS.iload X205.here hx rfl (hb hby at_179) rfl ?_
              show Steps pP.tables eE below (T205.setTop (mkF mM 181 Ls184 [(.int (own_dl p3)), (.int (Int32.ofNat tt)), (.int (Int32.ofNat f)), (.int (0 : Int32)), (.int (p0 &&& (255 : Int32)))])) _
              refine st247 _ ?_
              exact kg)
            by_cases hc248 : (own_hit (p0 &&& (255 : Int32)) (0 : Int32) (Int32.ofNat f) (Int32.ofNat tt) (own_dl p3)) = (0 : Int32)
            · obtain ⟨cl250, Ar250, -, S250, Nn250, Hh250, -⟩ := id f246
              have hin250 : ¬ ((1 : Int32) < 0 ∨ cl250.slots.size ≤ ((1 : Int32)).toNatClampNeg) := inb_of S250 ⟨by decide, by decide⟩
              have hat250 : cl250.slots[((1 : Int32)).toNatClampNeg]? = some (.int (p1 &&& (255 : Int32))) := Hh250.at hin250 rfl
              obtain ⟨_, _, ⟨T251, L251, k251, n251⟩, -, X251, ⟨Lc251, hQ251, l251, y251, z251⟩, st251⟩ := Jvm.LawKit.callS X247 hx (y := (⟨"com/example/resultwire/resultwire/er7/PiecesIsSplitPinLaw", "hit", "(CIIII)Z"⟩ : MethodName)) hown (mvT hZ (w_75 hw)) (mvT hZ (w_76 hw)) (mvT hZ (w_77 hw)) (mvT hZ (w_78 hw)) (by decide) (backOf (W := 0) (rm_hit l Z a0 hw [] (p1 &&& (255 : Int32)) (1 : Int32) (Int32.ofNat f) (Int32.ofNat tt) (own_dl p3) T202.heap n0 f204 ) hZ (w_78 hw) (w_77 hw) (by decide) (by decide)) (g := (mkF mM 198 Ls184 [(.int (own_dl p3)), (.int (Int32.ofNat tt)), (.int (Int32.ofNat f)), (.int (1 : Int32)), (.int (p1 &&& (255 : Int32)))])) rfl (by rw [hml]; rfl) (argsL := [(.int (p1 &&& (255 : Int32))), (.int (1 : Int32)), (.int (Int32.ofNat f)), (.int (Int32.ofNat tt)), (.int (own_dl p3))]) (rest := []) (lenOf pd_9 rfl) rfl (by show 2 * 0 + _ ≤ _; exact Nat.le_of_eq rfl) (hb hby at_198) (fun _ _ => ⟨rfl, Kq247, (by decide : 4 + 0 ≤ _), (by decide : 17 + 0 ≤ _)⟩)
              dsimp only [Pt.U, Pt.locs, Pt.cells, Pt.slots] at X251 l251 y251 z251 st251 hQ251
              subst l251 y251 z251
              obtain ⟨rfl, rfl, Kq251⟩ := hQ251
              try rw [List.append_nil] at X251
              have pre253 : ∀ tg, Steps pP.tables eE below (T251.setTop (mkF mM 201 Ls184 [(.int (own_hit (p1 &&& (255 : Int32)) (1 : Int32) (Int32.ofNat f) (Int32.ofNat tt) (own_dl p3)))])) tg → Steps pP.tables eE below (T205.setTop (mkF mM 164 Ls184 [])) tg := fun tg kg => pre249 tg (by
                refine XS.ifNo X247.here hx rfl (hb hby at_184) rfl ((if0 _ _).trans (teq hc248).2) ?_
                show Steps pP.tables eE below (T247.setTop (mkF mM 187 Ls184 [])) _
                refine XS.aload X247.here hx rfl (hb hby at_187) rfl rfl ?_
                show Steps pP.tables eE below (T247.setTop (mkF mM 189 Ls184 [(.ref b1)])) _
                refine XS.iconst X247.here hx rfl (hb hby at_189) ?_
                show Steps pP.tables eE below (T247.setTop (mkF mM 190 Ls184 [(.int (1 : Int32)), (.ref b1)])) _
                refine X247.caload hx (j := (1 : Int32)) (v := (.int (p1 &&& (255 : Int32)))) (by rw [Kq247]; exact Ar250.1) (State.isArrayOf_alike hZ.alike Ar250.2.1) Ar250.2.2 hin250 hat250 (g := (mkF mM 190 Ls184 [(.int (1 : Int32)), (.ref b1)])) rfl rfl (hb hby at_190) _ ?_
                show Steps pP.tables eE below (T247.setTop (mkF mM 191 Ls184 [(.int (p1 &&& (255 : Int32)))])) _
                refine XS.iconst X247.here hx rfl (hb hby at_191) ?_
                show Steps pP.tables eE below (T247.setTop (mkF mM 192 Ls184 [(.int (1 : Int32)), (.int (p1 &&& (255 : Int32)))])) _
                refine XS.iload X247.here hx rfl (hb hby at_192) rfl ?_
                show Steps pP.tables eE below (T247.setTop (mkF mM 194 Ls184 [(.int (Int32.ofNat f)), (.int (1 : Int32)), (.int (p1 &&& (255 : Int32)))])) _
                refine XS.iload X247.here hx rfl (hb hby at_194) rfl ?_
                show Steps pP.tables eE below (T247.setTop (mkF mM 196 Ls184 [(.int (Int32.ofNat tt)), (.int (Int32.ofNat f)), (.int (1 : Int32)), (.int (p1 &&& (255 : Int32)))])) _
                refine XS.iload X247.here hx rfl (hb hby at_196) rfl ?_
                show Steps pP.tables eE below (T247.setTop (mkF mM 198 Ls184 [(.int (own_dl p3)), (.int (Int32.ofNat tt)), (.int (Int32.ofNat f)), (.int (1 : Int32)), (.int (p1 &&& (255 : Int32)))])) _
                refine st251 _ ?_
                exact kg)
              by_cases hc252 : (own_hit (p1 &&& (255 : Int32)) (1 : Int32) (Int32.ofNat f) (Int32.ofNat tt) (own_dl p3)) = (0 : Int32)
              · obtain ⟨cl254, Ar254, -, S254, Nn254, Hh254, -⟩ := id f246
                have hin254 : ¬ ((2 : Int32) < 0 ∨ cl254.slots.size ≤ ((2 : Int32)).toNatClampNeg) := inb_of S254 ⟨by decide, by decide⟩
                have hat254 : cl254.slots[((2 : Int32)).toNatClampNeg]? = some (.int (p2 &&& (255 : Int32))) := Hh254.at hin254 rfl
                obtain ⟨_, _, ⟨T255, L255, k255, n255⟩, -, X255, ⟨Lc255, hQ255, l255, y255, z255⟩, st255⟩ := Jvm.LawKit.callS X251 hx (y := (⟨"com/example/resultwire/resultwire/er7/PiecesIsSplitPinLaw", "hit", "(CIIII)Z"⟩ : MethodName)) hown (mvT hZ (w_75 hw)) (mvT hZ (w_76 hw)) (mvT hZ (w_77 hw)) (mvT hZ (w_78 hw)) (by decide) (backOf (W := 0) (rm_hit l Z a0 hw [] (p2 &&& (255 : Int32)) (2 : Int32) (Int32.ofNat f) (Int32.ofNat tt) (own_dl p3) T202.heap n0 f204 ) hZ (w_78 hw) (w_77 hw) (by decide) (by decide)) (g := (mkF mM 215 Ls184 [(.int (own_dl p3)), (.int (Int32.ofNat tt)), (.int (Int32.ofNat f)), (.int (2 : Int32)), (.int (p2 &&& (255 : Int32)))])) rfl (by rw [hml]; rfl) (argsL := [(.int (p2 &&& (255 : Int32))), (.int (2 : Int32)), (.int (Int32.ofNat f)), (.int (Int32.ofNat tt)), (.int (own_dl p3))]) (rest := []) (lenOf pd_9 rfl) rfl (by show 2 * 0 + _ ≤ _; exact Nat.le_of_eq rfl) (hb hby at_215) (fun _ _ => ⟨rfl, Kq251, (by decide : 4 + 0 ≤ _), (by decide : 17 + 0 ≤ _)⟩)
                dsimp only [Pt.U, Pt.locs, Pt.cells, Pt.slots] at X255 l255 y255 z255 st255 hQ255
                subst l255 y255 z255
                obtain ⟨rfl, rfl, Kq255⟩ := hQ255
                try rw [List.append_nil] at X255
                have pre257 : ∀ tg, Steps pP.tables eE below (T255.setTop (mkF mM 218 Ls184 [(.int (own_hit (p2 &&& (255 : Int32)) (2 : Int32) (Int32.ofNat f) (Int32.ofNat tt) (own_dl p3)))])) tg → Steps pP.tables eE below (T205.setTop (mkF mM 164 Ls184 [])) tg := fun tg kg => pre253 tg (by
                  refine XS.ifNo X251.here hx rfl (hb hby at_201) rfl ((if0 _ _).trans (teq hc252).2) ?_
                  show Steps pP.tables eE below (T251.setTop (mkF mM 204 Ls184 [])) _
                  refine XS.aload X251.here hx rfl (hb hby at_204) rfl rfl ?_
                  show Steps pP.tables eE below (T251.setTop (mkF mM 206 Ls184 [(.ref b1)])) _
                  refine XS.iconst X251.here hx rfl (hb hby at_206) ?_
                  show Steps pP.tables eE below (T251.setTop (mkF mM 207 Ls184 [(.int (2 : Int32)), (.ref b1)])) _
                  refine X251.caload hx (j := (2 : Int32)) (v := (.int (p2 &&& (255 : Int32)))) (by rw [Kq251]; exact Ar254.1) (State.isArrayOf_alike hZ.alike Ar254.2.1) Ar254.2.2 hin254 hat254 (g := (mkF mM 207 Ls184 [(.int (2 : Int32)), (.ref b1)])) rfl rfl (hb hby at_207) _ ?_
                  show Steps pP.tables eE below (T251.setTop (mkF mM 208 Ls184 [(.int (p2 &&& (255 : Int32)))])) _
                  refine XS.iconst X251.here hx rfl (hb hby at_208) ?_
                  show Steps pP.tables eE below (T251.setTop (mkF mM 209 Ls184 [(.int (2 : Int32)), (.int (p2 &&& (255 : Int32)))])) _
                  refine XS.iload X251.here hx rfl (hb hby at_209) rfl ?_
                  show Steps pP.tables eE below (T251.setTop (mkF mM 211 Ls184 [(.int (Int32.ofNat f)), (.int (2 : Int32)), (.int (p2 &&& (255 : Int32)))])) _
                  refine XS.iload X251.here hx rfl (hb hby at_211) rfl ?_
                  show Steps pP.tables eE below (T251.setTop (mkF mM 213 Ls184 [(.int (Int32.ofNat tt)), (.int (Int32.ofNat f)), (.int (2 : Int32)), (.int (p2 &&& (255 : Int32)))])) _
                  refine XS.iload X251.here hx rfl (hb hby at_213) rfl ?_
                  show Steps pP.tables eE below (T251.setTop (mkF mM 215 Ls184 [(.int (own_dl p3)), (.int (Int32.ofNat tt)), (.int (Int32.ofNat f)), (.int (2 : Int32)), (.int (p2 &&& (255 : Int32)))])) _
                  refine st255 _ ?_
                  exact kg)
                by_cases hc256 : (own_hit (p2 &&& (255 : Int32)) (2 : Int32) (Int32.ofNat f) (Int32.ofNat tt) (own_dl p3)) = (0 : Int32)
                · refine ⟨T255, X255, Kq255, fun tg kg => ?_⟩
                  rw [show (own_fd (own_dl p3) (Int32.ofNat f) (Int32.ofNat tt) (p0 &&& (255 : Int32)) (p1 &&& (255 : Int32)) (p2 &&& (255 : Int32))) = (0 : Int32) from by rw [own_fd, if_neg hc243, if_pos hc248, if_pos hc252, if_pos hc256]] at kg
                  refine pre257 tg ?_
                  refine XS.ifYes X255.here hx rfl (pc0 := 218) (pc' := 225) rfl (hb hby at_218) rfl ((if0 _ _).trans (teq hc256).1) (by decide) (by decide) ?_
                  show Steps pP.tables eE below (T255.setTop (mkF mM 225 Ls184 [])) _
                  refine XS.iconst X255.here hx rfl (hb hby at_225) ?_
                  exact kg
                · refine ⟨T255, X255, Kq255, fun tg kg => ?_⟩
                  rw [show (own_fd (own_dl p3) (Int32.ofNat f) (Int32.ofNat tt) (p0 &&& (255 : Int32)) (p1 &&& (255 : Int32)) (p2 &&& (255 : Int32))) = (1 : Int32) from by rw [own_fd, if_neg hc243, if_pos hc248, if_pos hc252, if_neg hc256]] at kg
                  refine pre257 tg ?_
                  refine XS.ifNo X255.here hx rfl (hb hby at_218) rfl ((if0 _ _).trans (feq hc256).1) ?_
                  show Steps pP.tables eE below (T255.setTop (mkF mM 221 Ls184 [])) _
                  refine XS.iconst X255.here hx rfl (hb hby at_221) ?_
                  show Steps pP.tables eE below (T255.setTop (mkF mM 222 Ls184 [(.int (1 : Int32))])) _
                  refine XS.goto X255.here hx rfl (pc0 := 222) (pc' := 226) rfl (hb hby at_222) (by decide) (by decide) ?_
                  exact kg
              · refine ⟨T251, X251, Kq251, fun tg kg => ?_⟩
                rw [show (own_fd (own_dl p3) (Int32.ofNat f) (Int32.ofNat tt) (p0 &&& (255 : Int32)) (p1 &&& (255 : Int32)) (p2 &&& (255 : Int32))) = (1 : Int32) from by rw [own_fd, if_neg hc243, if_pos hc248, if_neg hc252]] at kg
                refine pre253 tg ?_
                refine XS.ifYes X251.here hx rfl (pc0 := 201) (pc' := 221) rfl (hb hby at_201) rfl ((if0 _ _).trans (feq hc252).2) (by decide) (by decide) ?_
                show Steps pP.tables eE below (T251.setTop (mkF mM 221 Ls184 [])) _
                refine XS.iconst X251.here hx rfl (hb hby at_221) ?_
                show Steps pP.tables eE below (T251.setTop (mkF mM 222 Ls184 [(.int (1 : Int32))])) _
                refine XS.goto X251.here hx rfl (pc0 := 222) (pc' := 226) rfl (hb hby at_222) (by decide) (by decide) ?_
                exact kg
            · refine ⟨T247, X247, Kq247, fun tg kg => ?_⟩
              rw [show (own_fd (own_dl p3) (Int32.ofNat f) (Int32.ofNat tt) (p0 &&& (255 : Int32)) (p1 &&& (255 : Int32)) (p2 &&& (255 : Int32))) = (1 : Int32) from by rw [own_fd, if_neg hc243, if_neg hc248]] at kg
              refine pre249 tg ?_
              refine XS.ifYes X247.here hx rfl (pc0 := 184) (pc' := 221) rfl (hb hby at_184) rfl ((if0 _ _).trans (feq hc248).2) (by decide) (by decide) ?_
              show Steps pP.tables eE below (T247.setTop (mkF mM 221 Ls184 [])) _
              refine XS.iconst X247.here hx rfl (hb hby at_221) ?_
              show Steps pP.tables eE below (T247.setTop (mkF mM 222 Ls184 [(.int (1 : Int32))])) _
              refine XS.goto X247.here hx rfl (pc0 := 222) (pc' := 226) rfl (hb hby at_222) (by decide) (by decide) ?_
              exact kg)
        let Ls258 : Array Slot := #[.val (.int p0), .val (.int p1), .val (.int p2), .val (.int p3), .val (.int p4), .val (.int p5), .val (.ref b1), .val (.ref b10), .val (.int (own_dl p3)), .val (.int (Int32.ofNat tt)), .val (.int (Int32.ofNat f)), .val (.int (3 : Int32)), .val (.ref b178), .val (.int (own_fd (own_dl p3) (Int32.ofNat f) (Int32.ofNat tt) (p0 &&& (255 : Int32)) (p1 &&& (255 : Int32)) (p2 &&& (255 : Int32)))), .unset]
        have pre260 : ∀ tg, Steps pP.tables eE below (T242.setTop (mkF mM 236 Ls258 [(.int (own_fd (own_dl p3) (Int32.ofNat f) (Int32.ofNat tt) (p0 &&& (255 : Int32)) (p1 &&& (255 : Int32)) (p2 &&& (255 : Int32))))])) tg → Steps pP.tables eE below (s₁.setTop (entryFrame mM #[(.int p0), (.int p1), (.int p2), (.int p3), (.int p4), (.int p5)] maxLocals)) tg := fun tg kg => pre208 tg (by
          refine XS.ifYes X205.here hx rfl (pc0 := 156) (pc' := 164) rfl (hb hby at_156) rfl ((if0 _ _).trans (teq (if_pos (own_lt (by omega) (by omega)))).1) (by decide) (by decide) ?_
          show Steps pP.tables eE below (T205.setTop (mkF mM 164 Ls184 [])) _
          refine st242 _ ?_
          show Steps pP.tables eE below (T242.setTop (mkF mM 226 Ls184 [(.int (own_fd (own_dl p3) (Int32.ofNat f) (Int32.ofNat tt) (p0 &&& (255 : Int32)) (p1 &&& (255 : Int32)) (p2 &&& (255 : Int32))))])) _
          refine XS.istore X242.here hx rfl (hb hby at_226) rfl (l' := Ls258) rfl ?_
          show Steps pP.tables eE below (T242.setTop (mkF mM 228 Ls258 [])) _
          refine XS.iload X242.here hx rfl (hb hby at_228) rfl ?_
          show Steps pP.tables eE below (T242.setTop (mkF mM 230 Ls258 [(.int (3 : Int32))])) _
          refine XS.iconst X242.here hx rfl (hb hby at_230) ?_
          show Steps pP.tables eE below (T242.setTop (mkF mM 231 Ls258 [(.int (1 : Int32)), (.int (3 : Int32))])) _
          refine XS.icmpNo X242.here hx rfl (hb hby at_231) rfl (flt (by decide : ¬ ((3 : Int32) < (1 : Int32)))).1 ?_
          show Steps pP.tables eE below (T242.setTop (mkF mM 234 Ls258 [])) _
          refine XS.iload X242.here hx rfl (hb hby at_234) rfl ?_
          exact kg)
        by_cases hc259 : (own_fd (own_dl p3) (Int32.ofNat f) (Int32.ofNat tt) (p0 &&& (255 : Int32)) (p1 &&& (255 : Int32)) (p2 &&& (255 : Int32))) = (0 : Int32)
        · let Ls261 : Array Slot := #[.val (.int p0), .val (.int p1), .val (.int p2), .val (.int p3), .val (.int p4), .val (.int p5), .val (.ref b1), .val (.ref b10), .val (.int (own_dl p3)), .val (.int (Int32.ofNat tt)), .val (.int (Int32.ofNat f)), .val (.int (3 : Int32)), .val (.ref b178), .val (.int (own_fd (own_dl p3) (Int32.ofNat f) (Int32.ofNat tt) (p0 &&& (255 : Int32)) (p1 &&& (255 : Int32)) (p2 &&& (255 : Int32)))), .val (.int (0 : Int32))]
          obtain ⟨cq262, kq262, q262a, q262b, q262c⟩ := isOf hZ e242 q202_0
          obtain ⟨_, _, ⟨T262, L262, k262, n262⟩, -, X262, ⟨Lc262, hQ262, l262, y262, z262⟩, st262⟩ := X242.virtualBack hx (y := (⟨"com/example/resultwire/resultwire/er7/Pieces", "isSplit", "()Z"⟩ : MethodName)) (z := (⟨"com/example/resultwire/resultwire/er7/Pieces", "isSplit", "()Z"⟩ : MethodName)) hown (mvT hZ (w_79 hw)) (mvT hZ (w_80 hw)) (notFace_of_selects (args := #[]) (mvT hZ (w_82 hw))) (mvT hZ (w_82 hw)) (mvT hZ (w_81 hw)) (by decide) (backOf (W := 0) (rm_isp l Z a0 hw [] b178 (((0 : Int32) + (1 : Int32)) + (1 : Int32)) (Int32.ofNat (own_endOf [(p0 &&& (255 : Int32)), (p1 &&& (255 : Int32)), (p2 &&& (255 : Int32))] (own_dl p3) (own_endOf [(p0 &&& (255 : Int32)), (p1 &&& (255 : Int32)), (p2 &&& (255 : Int32))] (own_dl p3) f tt + 1) tt)) (Int32.ofNat tt) T202.heap n0 f204 q202_7 q202_6 q202_3) hZ (w_83 hw) (w_32 hw) (by decide) (by decide)) q262a q262c (g := (mkF mM 248 Ls261 [(.ref b178)])) rfl (by rw [hml]; rfl) (Steps.refl _) (argsL := []) (rest := []) (lenOf pd_3 rfl) rfl (by show 2 * 0 + _ ≤ _; exact Nat.le_of_eq rfl) (hb hby at_248) (fun _ _ => ⟨rfl, e242, (by decide : 4 + 0 ≤ _), (by decide : 17 + 0 ≤ _)⟩)
          dsimp only [Pt.U, Pt.locs, Pt.cells, Pt.slots] at X262 l262 y262 z262 st262 hQ262
          subst l262 y262 z262
          obtain ⟨rfl, rfl, Kq262⟩ := hQ262
          try rw [List.append_nil] at X262
          exact absurd (own_fd0 hft htt |>.mp hc259) (by omega)
        · let Ls263 : Array Slot := #[.val (.int p0), .val (.int p1), .val (.int p2), .val (.int p3), .val (.int p4), .val (.int p5), .val (.ref b1), .val (.ref b10), .val (.int (own_dl p3)), .val (.int (Int32.ofNat tt)), .val (.int (Int32.ofNat f)), .val (.int (3 : Int32)), .val (.ref b178), .val (.int (own_fd (own_dl p3) (Int32.ofNat f) (Int32.ofNat tt) (p0 &&& (255 : Int32)) (p1 &&& (255 : Int32)) (p2 &&& (255 : Int32)))), .val (.int (1 : Int32))]
          obtain ⟨cq264, kq264, q264a, q264b, q264c⟩ := isOf hZ e242 q202_0
          obtain ⟨_, _, ⟨T264, L264, k264, n264⟩, -, X264, ⟨Lc264, hQ264, l264, y264, z264⟩, st264⟩ := X242.virtualBack hx (y := (⟨"com/example/resultwire/resultwire/er7/Pieces", "isSplit", "()Z"⟩ : MethodName)) (z := (⟨"com/example/resultwire/resultwire/er7/Pieces", "isSplit", "()Z"⟩ : MethodName)) hown (mvT hZ (w_79 hw)) (mvT hZ (w_80 hw)) (notFace_of_selects (args := #[]) (mvT hZ (w_82 hw))) (mvT hZ (w_82 hw)) (mvT hZ (w_81 hw)) (by decide) (backOf (W := 0) (rm_isp l Z a0 hw [] b178 (((0 : Int32) + (1 : Int32)) + (1 : Int32)) (Int32.ofNat (own_endOf [(p0 &&& (255 : Int32)), (p1 &&& (255 : Int32)), (p2 &&& (255 : Int32))] (own_dl p3) (own_endOf [(p0 &&& (255 : Int32)), (p1 &&& (255 : Int32)), (p2 &&& (255 : Int32))] (own_dl p3) f tt + 1) tt)) (Int32.ofNat tt) T202.heap n0 f204 q202_7 q202_6 q202_3) hZ (w_83 hw) (w_32 hw) (by decide) (by decide)) q264a q264c (g := (mkF mM 248 Ls263 [(.ref b178)])) rfl (by rw [hml]; rfl) (Steps.refl _) (argsL := []) (rest := []) (lenOf pd_3 rfl) rfl (by show 2 * 0 + _ ≤ _; exact Nat.le_of_eq rfl) (hb hby at_248) (fun _ _ => ⟨rfl, e242, (by decide : 4 + 0 ≤ _), (by decide : 17 + 0 ≤ _)⟩)
          dsimp only [Pt.U, Pt.locs, Pt.cells, Pt.slots] at X264 l264 y264 z264 st264 hQ264
          subst l264 y264 z264
          obtain ⟨rfl, rfl, Kq264⟩ := hQ264
          try rw [List.append_nil] at X264
          obtain ⟨fs, hr, hrun, hended, hW, hsame⟩ := X264.leave (v := some (.int (1 : Int32))) (fun h => by rw [Bd.returns] at h; cases h)
          refine ⟨_, _, pre260 _ ?_, hrun, hended, _, _, rfl, ?_, ⟨_, rfl⟩, hW, hsame.mono (by decide) (by decide)⟩
          · refine XS.ifNo X242.here hx rfl (hb hby at_236) rfl ((if0 _ _).trans (feq hc259).1) ?_
            show Steps pP.tables eE below (T242.setTop (mkF mM 239 Ls258 [])) _
            refine XS.iconst X242.here hx rfl (hb hby at_239) ?_
            show Steps pP.tables eE below (T242.setTop (mkF mM 240 Ls258 [(.int (1 : Int32))])) _
            refine XS.goto X242.here hx rfl (pc0 := 240) (pc' := 244) rfl (hb hby at_240) (by decide) (by decide) ?_
            show Steps pP.tables eE below (T242.setTop (mkF mM 244 Ls258 [(.int (1 : Int32))])) _
            refine XS.istore X242.here hx rfl (hb hby at_244) rfl (l' := Ls263) rfl ?_
            show Steps pP.tables eE below (T242.setTop (mkF mM 246 Ls263 [])) _
            refine XS.aload X242.here hx rfl (hb hby at_246) rfl rfl ?_
            show Steps pP.tables eE below (T242.setTop (mkF mM 248 Ls263 [(.ref b178)])) _
            refine st264.trans ?_
            show Steps pP.tables eE below (T264.setTop (mkF mM 251 Ls263 [(.int (own_is (((0 : Int32) + (1 : Int32)) + (1 : Int32)) (Int32.ofNat (own_endOf [(p0 &&& (255 : Int32)), (p1 &&& (255 : Int32)), (p2 &&& (255 : Int32))] (own_dl p3) (own_endOf [(p0 &&& (255 : Int32)), (p1 &&& (255 : Int32)), (p2 &&& (255 : Int32))] (own_dl p3) f tt + 1) tt)) (Int32.ofNat tt)))])) _
            refine XS.iload X264.here hx rfl (hb hby at_251) rfl ?_
            show Steps pP.tables eE below (T264.setTop (mkF mM 253 Ls263 [(.int (1 : Int32)), (.int (own_is (((0 : Int32) + (1 : Int32)) + (1 : Int32)) (Int32.ofNat (own_endOf [(p0 &&& (255 : Int32)), (p1 &&& (255 : Int32)), (p2 &&& (255 : Int32))] (own_dl p3) (own_endOf [(p0 &&& (255 : Int32)), (p1 &&& (255 : Int32)), (p2 &&& (255 : Int32))] (own_dl p3) f tt + 1) tt)) (Int32.ofNat tt)))])) _
            refine XS.icmpNo X264.here hx rfl (hb hby at_253) rfl (teq (own_is2 _ _)).2 ?_
            show Steps pP.tables eE below (T264.setTop (mkF mM 256 Ls263 [])) _
            refine XS.iconst X264.here hx rfl (hb hby at_256) ?_
            show Steps pP.tables eE below (T264.setTop (mkF mM 257 Ls263 [(.int (1 : Int32))])) _
            refine XS.goto X264.here hx rfl (pc0 := 257) (pc' := 261) rfl (hb hby at_257) (by decide) (by decide) ?_
            show Steps pP.tables eE below (T264.setTop (mkF mM 261 Ls263 [(.int (1 : Int32))])) _
            exact retN X264 hx (t := .boolean) Bd.returns (by simp) (hb hby at_261) hr
          · show Q_law Z p0 p1 p2 p3 p4 p5 zc fm h0 n0 _ T264.heap _
            rw [Kq264]
            exact ⟨rfl, N202, K203⟩
    · obtain ⟨cq266, kq266, q266a, q266b, q266c⟩ := isOf hZ Kq194 q191_0
      obtain ⟨_, _, ⟨T266, L266, k266, n266⟩, -, X266, ⟨Lc266, hQ266, l266, y266, z266⟩, st266⟩ := X194.virtualBack hx (y := (⟨"com/example/resultwire/resultwire/er7/Pieces", "hasNext", "()Z"⟩ : MethodName)) (z := (⟨"com/example/resultwire/resultwire/er7/Pieces", "hasNext", "()Z"⟩ : MethodName)) hown (mvT hZ (w_49 hw)) (mvT hZ (w_50 hw)) (notFace_of_selects (args := #[]) (mvT hZ (w_52 hw))) (mvT hZ (w_52 hw)) (mvT hZ (w_51 hw)) (by decide) (backOf (W := 0) (rm_hn l Z a0 hw [] b178 (Int32.ofNat (own_endOf [(p0 &&& (255 : Int32)), (p1 &&& (255 : Int32)), (p2 &&& (255 : Int32))] (own_dl p3) f tt + 1)) (Int32.ofNat tt) T191.heap n0 f193 q191_4 q191_3) hZ (w_53 hw) (w_32 hw) (by decide) (by decide)) q266a q266c (g := (mkF mM 153 Ls184 [(.ref b178)])) rfl (by rw [hml]; rfl) (Steps.refl _) (argsL := []) (rest := []) (lenOf pd_3 rfl) rfl (by show 2 * 0 + _ ≤ _; exact Nat.le_of_eq rfl) (hb hby at_153) (fun _ _ => ⟨rfl, Kq194, (by decide : 4 + 0 ≤ _), (by decide : 17 + 0 ≤ _)⟩)
      dsimp only [Pt.U, Pt.locs, Pt.cells, Pt.slots] at X266 l266 y266 z266 st266 hQ266
      subst l266 y266 z266
      obtain ⟨rfl, rfl, Kq266⟩ := hQ266
      try rw [List.append_nil] at X266
      obtain ⟨T267, X267, e267, st267⟩ := own_to X266 (h := T191.heap) (g := (mkF mM 164 Ls184 [])) (g' := (mkF mM 226 Ls184 [(.int (own_fd (own_dl p3) (Int32.ofNat f) (Int32.ofNat tt) (p0 &&& (255 : Int32)) (p1 &&& (255 : Int32)) (p2 &&& (255 : Int32))))])) (by
        have pre269 : ∀ tg, Steps pP.tables eE below (T266.setTop (mkF mM 167 Ls184 [(.int (-1 : Int32)), (.int (own_dl p3))])) tg → Steps pP.tables eE below (T266.setTop (mkF mM 164 Ls184 [])) tg := fun tg kg => (by
          refine XS.iload X266.here hx rfl (hb hby at_164) rfl ?_
          show Steps pP.tables eE below (T266.setTop (mkF mM 166 Ls184 [(.int (own_dl p3))])) _
          refine XS.iconst X266.here hx rfl (hb hby at_166) ?_
          exact kg)
        by_cases hc268 : (own_dl p3) = (-1 : Int32)
        · refine ⟨T266, X266, Kq266, fun tg kg => ?_⟩
          rw [show (own_fd (own_dl p3) (Int32.ofNat f) (Int32.ofNat tt) (p0 &&& (255 : Int32)) (p1 &&& (255 : Int32)) (p2 &&& (255 : Int32))) = (0 : Int32) from by rw [own_fd, if_pos hc268]] at kg
          refine pre269 tg ?_
          refine XS.icmpYes X266.here hx rfl (pc0 := 167) (pc' := 225) rfl (hb hby at_167) rfl (teq hc268).1 (by decide) (by decide) ?_
          show Steps pP.tables eE below (T266.setTop (mkF mM 225 Ls184 [])) _
          refine XS.iconst X266.here hx rfl (hb hby at_225) ?_
          exact kg
        · have f271 := ((((f14.keep Kq15 (ninS (Nat.ne_of_lt (Nat.lt_of_lt_of_le (Nat.lt_of_lt_of_le (Nat.lt_of_lt_of_le (Nat.lt_of_lt_of_le (V1).lt (Nat.le_of_eq W4.size.symm)) (Nat.le_of_eq W6.size.symm)) (Nat.le_of_eq W8.size.symm)) (Nat.le_of_eq g10.symm))) nin0)).ext E178).keep Kq182 (ninS (Nat.ne_of_lt (Nat.lt_of_lt_of_le (Nat.lt_of_lt_of_le (Nat.lt_of_lt_of_le (Nat.lt_of_lt_of_le (Nat.lt_of_lt_of_le (Nat.lt_of_lt_of_le (V1).lt (Nat.le_of_eq W4.size.symm)) (Nat.le_of_eq W6.size.symm)) (Nat.le_of_eq W8.size.symm)) E10.1) Kq15.1) (Nat.le_of_eq g178.symm))) nin0)).keep Kq191 (ninS (Nat.ne_of_lt (Nat.lt_of_lt_of_le (Nat.lt_of_lt_of_le (Nat.lt_of_lt_of_le (Nat.lt_of_lt_of_le (Nat.lt_of_lt_of_le (Nat.lt_of_lt_of_le (V1).lt (Nat.le_of_eq W4.size.symm)) (Nat.le_of_eq W6.size.symm)) (Nat.le_of_eq W8.size.symm)) E10.1) Kq15.1) (Nat.le_of_eq g178.symm))) nin0))
          obtain ⟨cl270, Ar270, -, S270, Nn270, Hh270, -⟩ := id f271
          have hin270 : ¬ ((0 : Int32) < 0 ∨ cl270.slots.size ≤ ((0 : Int32)).toNatClampNeg) := inb_of S270 ⟨by decide, by decide⟩
          have hat270 : cl270.slots[((0 : Int32)).toNatClampNeg]? = some (.int (p0 &&& (255 : Int32))) := Hh270.at hin270 rfl
          obtain ⟨_, _, ⟨T272, L272, k272, n272⟩, -, X272, ⟨Lc272, hQ272, l272, y272, z272⟩, st272⟩ := Jvm.LawKit.callS X266 hx (y := (⟨"com/example/resultwire/resultwire/er7/PiecesIsSplitPinLaw", "hit", "(CIIII)Z"⟩ : MethodName)) hown (mvT hZ (w_75 hw)) (mvT hZ (w_76 hw)) (mvT hZ (w_77 hw)) (mvT hZ (w_78 hw)) (by decide) (backOf (W := 0) (rm_hit l Z a0 hw [] (p0 &&& (255 : Int32)) (0 : Int32) (Int32.ofNat f) (Int32.ofNat tt) (own_dl p3) T191.heap n0 f193 ) hZ (w_78 hw) (w_77 hw) (by decide) (by decide)) (g := (mkF mM 181 Ls184 [(.int (own_dl p3)), (.int (Int32.ofNat tt)), (.int (Int32.ofNat f)), (.int (0 : Int32)), (.int (p0 &&& (255 : Int32)))])) rfl (by rw [hml]; rfl) (argsL := [(.int (p0 &&& (255 : Int32))), (.int (0 : Int32)), (.int (Int32.ofNat f)), (.int (Int32.ofNat tt)), (.int (own_dl p3))]) (rest := []) (lenOf pd_9 rfl) rfl (by show 2 * 0 + _ ≤ _; exact Nat.le_of_eq rfl) (hb hby at_181) (fun _ _ => ⟨rfl, Kq266, (by decide : 4 + 0 ≤ _), (by decide : 17 + 0 ≤ _)⟩)
          dsimp only [Pt.U, Pt.locs, Pt.cells, Pt.slots] at X272 l272 y272 z272 st272 hQ272
          subst l272 y272 z272
          obtain ⟨rfl, rfl, Kq272⟩ := hQ272
          try rw [List.append_nil] at X272
          have pre274 : ∀ tg, Steps pP.tables eE below (T272.setTop (mkF mM 184 Ls184 [(.int (own_hit (p0 &&& (255 : Int32)) (0 : Int32) (Int32.ofNat f) (Int32.ofNat tt) (own_dl p3)))])) tg → Steps pP.tables eE below (T266.setTop (mkF mM 164 Ls184 [])) tg := fun tg kg => pre269 tg (by
            refine XS.icmpNo X266.here hx rfl (hb hby at_167) rfl (feq hc268).1 ?_
            show Steps pP.tables eE below (T266.setTop (mkF mM 170 Ls184 [])) _
            refine XS.aload X266.here hx rfl (hb hby at_170) rfl rfl ?_
            show Steps pP.tables eE below (T266.setTop (mkF mM 172 Ls184 [(.ref b1)])) _
            refine XS.iconst X266.here hx rfl (hb hby at_172) ?_
            show Steps pP.tables eE below (T266.setTop (mkF mM 173 Ls184 [(.int (0 : Int32)), (.ref b1)])) _
            refine X266.caload hx (j := (0 : Int32)) (v := (.int (p0 &&& (255 : Int32)))) (by rw [Kq266]; exact Ar270.1) (State.isArrayOf_alike hZ.alike Ar270.2.1) Ar270.2.2 hin270 hat270 (g := (mkF mM 173 Ls184 [(.int (0 : Int32)), (.ref b1)])) rfl rfl (hb hby at_173) _ ?_
            show Steps pP.tables eE below (T266.setTop (mkF mM 174 Ls184 [(.int (p0 &&& (255 : Int32)))])) _
            refine XS.iconst X266.here hx rfl (hb hby at_174) ?_
            show Steps pP.tables eE below (T266.setTop (mkF mM 175 Ls184 [(.int (0 : Int32)), (.int (p0 &&& (255 : Int32)))])) _
            refine XS.iload X266.here hx rfl (hb hby at_175) rfl ?_
            show Steps pP.tables eE below (T266.setTop (mkF mM 177 Ls184 [(.int (Int32.ofNat f)), (.int (0 : Int32)), (.int (p0 &&& (255 : Int32)))])) _
            refine XS.iload X266.here hx rfl (hb hby at_177) rfl ?_
            show Steps pP.tables eE below (T266.setTop (mkF mM 179 Ls184 [(.int (Int32.ofNat tt)), (.int (Int32.ofNat f)), (.int (0 : Int32)), (.int (p0 &&& (255 : Int32)))])) _
            refine XS.iload X266.here hx rfl (hb hby at_179) rfl ?_
            show Steps pP.tables eE below (T266.setTop (mkF mM 181 Ls184 [(.int (own_dl p3)), (.int (Int32.ofNat tt)), (.int (Int32.ofNat f)), (.int (0 : Int32)), (.int (p0 &&& (255 : Int32)))])) _
            refine st272 _ ?_
            exact kg)
          by_cases hc273 : (own_hit (p0 &&& (255 : Int32)) (0 : Int32) (Int32.ofNat f) (Int32.ofNat tt) (own_dl p3)) = (0 : Int32)
          · obtain ⟨cl275, Ar275, -, S275, Nn275, Hh275, -⟩ := id f271
            have hin275 : ¬ ((1 : Int32) < 0 ∨ cl275.slots.size ≤ ((1 : Int32)).toNatClampNeg) := inb_of S275 ⟨by decide, by decide⟩
            have hat275 : cl275.slots[((1 : Int32)).toNatClampNeg]? = some (.int (p1 &&& (255 : Int32))) := Hh275.at hin275 rfl
            obtain ⟨_, _, ⟨T276, L276, k276, n276⟩, -, X276, ⟨Lc276, hQ276, l276, y276, z276⟩, st276⟩ := Jvm.LawKit.callS X272 hx (y := (⟨"com/example/resultwire/resultwire/er7/PiecesIsSplitPinLaw", "hit", "(CIIII)Z"⟩ : MethodName)) hown (mvT hZ (w_75 hw)) (mvT hZ (w_76 hw)) (mvT hZ (w_77 hw)) (mvT hZ (w_78 hw)) (by decide) (backOf (W := 0) (rm_hit l Z a0 hw [] (p1 &&& (255 : Int32)) (1 : Int32) (Int32.ofNat f) (Int32.ofNat tt) (own_dl p3) T191.heap n0 f193 ) hZ (w_78 hw) (w_77 hw) (by decide) (by decide)) (g := (mkF mM 198 Ls184 [(.int (own_dl p3)), (.int (Int32.ofNat tt)), (.int (Int32.ofNat f)), (.int (1 : Int32)), (.int (p1 &&& (255 : Int32)))])) rfl (by rw [hml]; rfl) (argsL := [(.int (p1 &&& (255 : Int32))), (.int (1 : Int32)), (.int (Int32.ofNat f)), (.int (Int32.ofNat tt)), (.int (own_dl p3))]) (rest := []) (lenOf pd_9 rfl) rfl (by show 2 * 0 + _ ≤ _; exact Nat.le_of_eq rfl) (hb hby at_198) (fun _ _ => ⟨rfl, Kq272, (by decide : 4 + 0 ≤ _), (by decide : 17 + 0 ≤ _)⟩)
            dsimp only [Pt.U, Pt.locs, Pt.cells, Pt.slots] at X276 l276 y276 z276 st276 hQ276
            subst l276 y276 z276
            obtain ⟨rfl, rfl, Kq276⟩ := hQ276
            try rw [List.append_nil] at X276
            have pre278 : ∀ tg, Steps pP.tables eE below (T276.setTop (mkF mM 201 Ls184 [(.int (own_hit (p1 &&& (255 : Int32)) (1 : Int32) (Int32.ofNat f) (Int32.ofNat tt) (own_dl p3)))])) tg → Steps pP.tables eE below (T266.setTop (mkF mM 164 Ls184 [])) tg := fun tg kg => pre274 tg (by
              refine XS.ifNo X272.here hx rfl (hb hby at_184) rfl ((if0 _ _).trans (teq hc273).2) ?_
              show Steps pP.tables eE below (T272.setTop (mkF mM 187 Ls184 [])) _
              refine XS.aload X272.here hx rfl (hb hby at_187) rfl rfl ?_
              show Steps pP.tables eE below (T272.setTop (mkF mM 189 Ls184 [(.ref b1)])) _
              refine XS.iconst X272.here hx rfl (hb hby at_189) ?_
              show Steps pP.tables eE below (T272.setTop (mkF mM 190 Ls184 [(.int (1 : Int32)), (.ref b1)])) _
              refine X272.caload hx (j := (1 : Int32)) (v := (.int (p1 &&& (255 : Int32)))) (by rw [Kq272]; exact Ar275.1) (State.isArrayOf_alike hZ.alike Ar275.2.1) Ar275.2.2 hin275 hat275 (g := (mkF mM 190 Ls184 [(.int (1 : Int32)), (.ref b1)])) rfl rfl (hb hby at_190) _ ?_
              show Steps pP.tables eE below (T272.setTop (mkF mM 191 Ls184 [(.int (p1 &&& (255 : Int32)))])) _
              refine XS.iconst X272.here hx rfl (hb hby at_191) ?_
              show Steps pP.tables eE below (T272.setTop (mkF mM 192 Ls184 [(.int (1 : Int32)), (.int (p1 &&& (255 : Int32)))])) _
              refine XS.iload X272.here hx rfl (hb hby at_192) rfl ?_
              show Steps pP.tables eE below (T272.setTop (mkF mM 194 Ls184 [(.int (Int32.ofNat f)), (.int (1 : Int32)), (.int (p1 &&& (255 : Int32)))])) _
              refine XS.iload X272.here hx rfl (hb hby at_194) rfl ?_
              show Steps pP.tables eE below (T272.setTop (mkF mM 196 Ls184 [(.int (Int32.ofNat tt)), (.int (Int32.ofNat f)), (.int (1 : Int32)), (.int (p1 &&& (255 : Int32)))])) _
              refine XS.iload X272.here hx rfl (hb hby at_196) rfl ?_
              show Steps pP.tables eE below (T272.setTop (mkF mM 198 Ls184 [(.int (own_dl p3)), (.int (Int32.ofNat tt)), (.int (Int32.ofNat f)), (.int (1 : Int32)), (.int (p1 &&& (255 : Int32)))])) _
              refine st276 _ ?_
              exact kg)
            by_cases hc277 : (own_hit (p1 &&& (255 : Int32)) (1 : Int32) (Int32.ofNat f) (Int32.ofNat tt) (own_dl p3)) = (0 : Int32)
            · obtain ⟨cl279, Ar279, -, S279, Nn279, Hh279, -⟩ := id f271
              have hin279 : ¬ ((2 : Int32) < 0 ∨ cl279.slots.size ≤ ((2 : Int32)).toNatClampNeg) := inb_of S279 ⟨by decide, by decide⟩
              have hat279 : cl279.slots[((2 : Int32)).toNatClampNeg]? = some (.int (p2 &&& (255 : Int32))) := Hh279.at hin279 rfl
              obtain ⟨_, _, ⟨T280, L280, k280, n280⟩, -, X280, ⟨Lc280, hQ280, l280, y280, z280⟩, st280⟩ := Jvm.LawKit.callS X276 hx (y := (⟨"com/example/resultwire/resultwire/er7/PiecesIsSplitPinLaw", "hit", "(CIIII)Z"⟩ : MethodName)) hown (mvT hZ (w_75 hw)) (mvT hZ (w_76 hw)) (mvT hZ (w_77 hw)) (mvT hZ (w_78 hw)) (by decide) (backOf (W := 0) (rm_hit l Z a0 hw [] (p2 &&& (255 : Int32)) (2 : Int32) (Int32.ofNat f) (Int32.ofNat tt) (own_dl p3) T191.heap n0 f193 ) hZ (w_78 hw) (w_77 hw) (by decide) (by decide)) (g := (mkF mM 215 Ls184 [(.int (own_dl p3)), (.int (Int32.ofNat tt)), (.int (Int32.ofNat f)), (.int (2 : Int32)), (.int (p2 &&& (255 : Int32)))])) rfl (by rw [hml]; rfl) (argsL := [(.int (p2 &&& (255 : Int32))), (.int (2 : Int32)), (.int (Int32.ofNat f)), (.int (Int32.ofNat tt)), (.int (own_dl p3))]) (rest := []) (lenOf pd_9 rfl) rfl (by show 2 * 0 + _ ≤ _; exact Nat.le_of_eq rfl) (hb hby at_215) (fun _ _ => ⟨rfl, Kq276, (by decide : 4 + 0 ≤ _), (by decide : 17 + 0 ≤ _)⟩)
              dsimp only [Pt.U, Pt.locs, Pt.cells, Pt.slots] at X280 l280 y280 z280 st280 hQ280
              subst l280 y280 z280
              obtain ⟨rfl, rfl, Kq280⟩ := hQ280
              try rw [List.append_nil] at X280
              have pre282 : ∀ tg, Steps pP.tables eE below (T280.setTop (mkF mM 218 Ls184 [(.int (own_hit (p2 &&& (255 : Int32)) (2 : Int32) (Int32.ofNat f) (Int32.ofNat tt) (own_dl p3)))])) tg → Steps pP.tables eE below (T266.setTop (mkF mM 164 Ls184 [])) tg := fun tg kg => pre278 tg (by
                refine XS.ifNo X276.here hx rfl (hb hby at_201) rfl ((if0 _ _).trans (teq hc277).2) ?_
                show Steps pP.tables eE below (T276.setTop (mkF mM 204 Ls184 [])) _
                refine XS.aload X276.here hx rfl (hb hby at_204) rfl rfl ?_
                show Steps pP.tables eE below (T276.setTop (mkF mM 206 Ls184 [(.ref b1)])) _
                refine XS.iconst X276.here hx rfl (hb hby at_206) ?_
                show Steps pP.tables eE below (T276.setTop (mkF mM 207 Ls184 [(.int (2 : Int32)), (.ref b1)])) _
                refine X276.caload hx (j := (2 : Int32)) (v := (.int (p2 &&& (255 : Int32)))) (by rw [Kq276]; exact Ar279.1) (State.isArrayOf_alike hZ.alike Ar279.2.1) Ar279.2.2 hin279 hat279 (g := (mkF mM 207 Ls184 [(.int (2 : Int32)), (.ref b1)])) rfl rfl (hb hby at_207) _ ?_
                show Steps pP.tables eE below (T276.setTop (mkF mM 208 Ls184 [(.int (p2 &&& (255 : Int32)))])) _
                refine XS.iconst X276.here hx rfl (hb hby at_208) ?_
                show Steps pP.tables eE below (T276.setTop (mkF mM 209 Ls184 [(.int (2 : Int32)), (.int (p2 &&& (255 : Int32)))])) _
                refine XS.iload X276.here hx rfl (hb hby at_209) rfl ?_
                show Steps pP.tables eE below (T276.setTop (mkF mM 211 Ls184 [(.int (Int32.ofNat f)), (.int (2 : Int32)), (.int (p2 &&& (255 : Int32)))])) _
                refine XS.iload X276.here hx rfl (hb hby at_211) rfl ?_
                show Steps pP.tables eE below (T276.setTop (mkF mM 213 Ls184 [(.int (Int32.ofNat tt)), (.int (Int32.ofNat f)), (.int (2 : Int32)), (.int (p2 &&& (255 : Int32)))])) _
                refine XS.iload X276.here hx rfl (hb hby at_213) rfl ?_
                show Steps pP.tables eE below (T276.setTop (mkF mM 215 Ls184 [(.int (own_dl p3)), (.int (Int32.ofNat tt)), (.int (Int32.ofNat f)), (.int (2 : Int32)), (.int (p2 &&& (255 : Int32)))])) _
                refine st280 _ ?_
                exact kg)
              by_cases hc281 : (own_hit (p2 &&& (255 : Int32)) (2 : Int32) (Int32.ofNat f) (Int32.ofNat tt) (own_dl p3)) = (0 : Int32)
              · refine ⟨T280, X280, Kq280, fun tg kg => ?_⟩
                rw [show (own_fd (own_dl p3) (Int32.ofNat f) (Int32.ofNat tt) (p0 &&& (255 : Int32)) (p1 &&& (255 : Int32)) (p2 &&& (255 : Int32))) = (0 : Int32) from by rw [own_fd, if_neg hc268, if_pos hc273, if_pos hc277, if_pos hc281]] at kg
                refine pre282 tg ?_
                refine XS.ifYes X280.here hx rfl (pc0 := 218) (pc' := 225) rfl (hb hby at_218) rfl ((if0 _ _).trans (teq hc281).1) (by decide) (by decide) ?_
                show Steps pP.tables eE below (T280.setTop (mkF mM 225 Ls184 [])) _
                refine XS.iconst X280.here hx rfl (hb hby at_225) ?_
                exact kg
              · refine ⟨T280, X280, Kq280, fun tg kg => ?_⟩
                rw [show (own_fd (own_dl p3) (Int32.ofNat f) (Int32.ofNat tt) (p0 &&& (255 : Int32)) (p1 &&& (255 : Int32)) (p2 &&& (255 : Int32))) = (1 : Int32) from by rw [own_fd, if_neg hc268, if_pos hc273, if_pos hc277, if_neg hc281]] at kg
                refine pre282 tg ?_
                refine XS.ifNo X280.here hx rfl (hb hby at_218) rfl ((if0 _ _).trans (feq hc281).1) ?_
                show Steps pP.tables eE below (T280.setTop (mkF mM 221 Ls184 [])) _
                refine XS.iconst X280.here hx rfl (hb hby at_221) ?_
                show Steps pP.tables eE below (T280.setTop (mkF mM 222 Ls184 [(.int (1 : Int32))])) _
                refine XS.goto X280.here hx rfl (pc0 := 222) (pc' := 226) rfl (hb hby at_222) (by decide) (by decide) ?_
                exact kg
            · refine ⟨T276, X276, Kq276, fun tg kg => ?_⟩
              rw [show (own_fd (own_dl p3) (Int32.ofNat f) (Int32.ofNat tt) (p0 &&& (255 : Int32)) (p1 &&& (255 : Int32)) (p2 &&& (255 : Int32))) = (1 : Int32) from by rw [own_fd, if_neg hc268, if_pos hc273, if_neg hc277]] at kg
              refine pre278 tg ?_
              refine XS.ifYes X276.here hx rfl (pc0 := 201) (pc' := 221) rfl (hb hby at_201) rfl ((if0 _ _).trans (feq hc277).2) (by decide) (by decide) ?_
              show Steps pP.tables eE below (T276.setTop (mkF mM 221 Ls184 [])) _
              refine XS.iconst X276.here hx rfl (hb hby at_221) ?_
              show Steps pP.tables eE below (T276.setTop (mkF mM 222 Ls184 [(.int (1 : Int32))])) _
              refine XS.goto X276.here hx rfl (pc0 := 222) (pc' := 226) rfl (hb hby at_222) (by decide) (by decide) ?_
              exact kg
          · refine ⟨T272, X272, Kq272, fun tg kg => ?_⟩
            rw [show (own_fd (own_dl p3) (Int32.ofNat f) (Int32.ofNat tt) (p0 &&& (255 : Int32)) (p1 &&& (255 : Int32)) (p2 &&& (255 : Int32))) = (1 : Int32) from by rw [own_fd, if_neg hc268, if_neg hc273]] at kg
            refine pre274 tg ?_
            refine XS.ifYes X272.here hx rfl (pc0 := 184) (pc' := 221) rfl (hb hby at_184) rfl ((if0 _ _).trans (feq hc273).2) (by decide) (by decide) ?_
            show Steps pP.tables eE below (T272.setTop (mkF mM 221 Ls184 [])) _
            refine XS.iconst X272.here hx rfl (hb hby at_221) ?_
            show Steps pP.tables eE below (T272.setTop (mkF mM 222 Ls184 [(.int (1 : Int32))])) _
            refine XS.goto X272.here hx rfl (pc0 := 222) (pc' := 226) rfl (hb hby at_222) (by decide) (by decide) ?_
            exact kg)
      let Ls283 : Array Slot := #[.val (.int p0), .val (.int p1), .val (.int p2), .val (.int p3), .val (.int p4), .val (.int p5), .val (.ref b1), .val (.ref b10), .val (.int (own_dl p3)), .val (.int (Int32.ofNat tt)), .val (.int (Int32.ofNat f)), .val (.int (3 : Int32)), .val (.ref b178), .val (.int (own_fd (own_dl p3) (Int32.ofNat f) (Int32.ofNat tt) (p0 &&& (255 : Int32)) (p1 &&& (255 : Int32)) (p2 &&& (255 : Int32)))), .unset]
      have pre285 : ∀ tg, Steps pP.tables eE below (T267.setTop (mkF mM 236 Ls283 [(.int (own_fd (own_dl p3) (Int32.ofNat f) (Int32.ofNat tt) (p0 &&& (255 : Int32)) (p1 &&& (255 : Int32)) (p2 &&& (255 : Int32))))])) tg → Steps pP.tables eE below (s₁.setTop (entryFrame mM #[(.int p0), (.int p1), (.int p2), (.int p3), (.int p4), (.int p5)] maxLocals)) tg := fun tg kg => pre197 tg (by
        refine XS.ifYes X194.here hx rfl (pc0 := 137) (pc' := 145) rfl (hb hby at_137) rfl ((if0 _ _).trans (teq (if_pos (own_lt (by omega) (by omega)))).1) (by decide) (by decide) ?_
        show Steps pP.tables eE below (T194.setTop (mkF mM 145 Ls184 [])) _
        refine XS.iload X194.here hx rfl (hb hby at_145) rfl ?_
        show Steps pP.tables eE below (T194.setTop (mkF mM 147 Ls184 [(.int (3 : Int32))])) _
        refine XS.iconst X194.here hx rfl (hb hby at_147) ?_
        show Steps pP.tables eE below (T194.setTop (mkF mM 148 Ls184 [(.int (3 : Int32)), (.int (3 : Int32))])) _
        refine XS.icmpNo X194.here hx rfl (hb hby at_148) rfl (flt (by decide : ¬ ((3 : Int32) < (3 : Int32)))).1 ?_
        show Steps pP.tables eE below (T194.setTop (mkF mM 151 Ls184 [])) _
        refine XS.aload X194.here hx rfl (hb hby at_151) rfl rfl ?_
        show Steps pP.tables eE below (T194.setTop (mkF mM 153 Ls184 [(.ref b178)])) _
        refine st266.trans ?_
        show Steps pP.tables eE below (T266.setTop (mkF mM 156 Ls184 [(.int (own_hn (Int32.ofNat (own_endOf [(p0 &&& (255 : Int32)), (p1 &&& (255 : Int32)), (p2 &&& (255 : Int32))] (own_dl p3) f tt + 1)) (Int32.ofNat tt)))])) _
        refine XS.ifYes X266.here hx rfl (pc0 := 156) (pc' := 164) rfl (hb hby at_156) rfl ((if0 _ _).trans (teq (if_pos (own_lt (by omega) (by omega)))).1) (by decide) (by decide) ?_
        show Steps pP.tables eE below (T266.setTop (mkF mM 164 Ls184 [])) _
        refine st267 _ ?_
        show Steps pP.tables eE below (T267.setTop (mkF mM 226 Ls184 [(.int (own_fd (own_dl p3) (Int32.ofNat f) (Int32.ofNat tt) (p0 &&& (255 : Int32)) (p1 &&& (255 : Int32)) (p2 &&& (255 : Int32))))])) _
        refine XS.istore X267.here hx rfl (hb hby at_226) rfl (l' := Ls283) rfl ?_
        show Steps pP.tables eE below (T267.setTop (mkF mM 228 Ls283 [])) _
        refine XS.iload X267.here hx rfl (hb hby at_228) rfl ?_
        show Steps pP.tables eE below (T267.setTop (mkF mM 230 Ls283 [(.int (3 : Int32))])) _
        refine XS.iconst X267.here hx rfl (hb hby at_230) ?_
        show Steps pP.tables eE below (T267.setTop (mkF mM 231 Ls283 [(.int (1 : Int32)), (.int (3 : Int32))])) _
        refine XS.icmpNo X267.here hx rfl (hb hby at_231) rfl (flt (by decide : ¬ ((3 : Int32) < (1 : Int32)))).1 ?_
        show Steps pP.tables eE below (T267.setTop (mkF mM 234 Ls283 [])) _
        refine XS.iload X267.here hx rfl (hb hby at_234) rfl ?_
        exact kg)
      by_cases hc284 : (own_fd (own_dl p3) (Int32.ofNat f) (Int32.ofNat tt) (p0 &&& (255 : Int32)) (p1 &&& (255 : Int32)) (p2 &&& (255 : Int32))) = (0 : Int32)
      · let Ls286 : Array Slot := #[.val (.int p0), .val (.int p1), .val (.int p2), .val (.int p3), .val (.int p4), .val (.int p5), .val (.ref b1), .val (.ref b10), .val (.int (own_dl p3)), .val (.int (Int32.ofNat tt)), .val (.int (Int32.ofNat f)), .val (.int (3 : Int32)), .val (.ref b178), .val (.int (own_fd (own_dl p3) (Int32.ofNat f) (Int32.ofNat tt) (p0 &&& (255 : Int32)) (p1 &&& (255 : Int32)) (p2 &&& (255 : Int32)))), .val (.int (0 : Int32))]
        obtain ⟨cq287, kq287, q287a, q287b, q287c⟩ := isOf hZ e267 q191_0
        obtain ⟨_, _, ⟨T287, L287, k287, n287⟩, -, X287, ⟨Lc287, hQ287, l287, y287, z287⟩, st287⟩ := X267.virtualBack hx (y := (⟨"com/example/resultwire/resultwire/er7/Pieces", "isSplit", "()Z"⟩ : MethodName)) (z := (⟨"com/example/resultwire/resultwire/er7/Pieces", "isSplit", "()Z"⟩ : MethodName)) hown (mvT hZ (w_79 hw)) (mvT hZ (w_80 hw)) (notFace_of_selects (args := #[]) (mvT hZ (w_82 hw))) (mvT hZ (w_82 hw)) (mvT hZ (w_81 hw)) (by decide) (backOf (W := 0) (rm_isp l Z a0 hw [] b178 ((0 : Int32) + (1 : Int32)) (Int32.ofNat (own_endOf [(p0 &&& (255 : Int32)), (p1 &&& (255 : Int32)), (p2 &&& (255 : Int32))] (own_dl p3) f tt)) (Int32.ofNat tt) T191.heap n0 f193 q191_7 q191_6 q191_3) hZ (w_83 hw) (w_32 hw) (by decide) (by decide)) q287a q287c (g := (mkF mM 248 Ls286 [(.ref b178)])) rfl (by rw [hml]; rfl) (Steps.refl _) (argsL := []) (rest := []) (lenOf pd_3 rfl) rfl (by show 2 * 0 + _ ≤ _; exact Nat.le_of_eq rfl) (hb hby at_248) (fun _ _ => ⟨rfl, e267, (by decide : 4 + 0 ≤ _), (by decide : 17 + 0 ≤ _)⟩)
        dsimp only [Pt.U, Pt.locs, Pt.cells, Pt.slots] at X287 l287 y287 z287 st287 hQ287
        subst l287 y287 z287
        obtain ⟨rfl, rfl, Kq287⟩ := hQ287
        try rw [List.append_nil] at X287
        obtain ⟨fs, hr, hrun, hended, hW, hsame⟩ := X287.leave (v := some (.int (1 : Int32))) (fun h => by rw [Bd.returns] at h; cases h)
        refine ⟨_, _, pre285 _ ?_, hrun, hended, _, _, rfl, ?_, ⟨_, rfl⟩, hW, hsame.mono (by decide) (by decide)⟩
        · refine XS.ifYes X267.here hx rfl (pc0 := 236) (pc' := 243) rfl (hb hby at_236) rfl ((if0 _ _).trans (teq hc284).1) (by decide) (by decide) ?_
          show Steps pP.tables eE below (T267.setTop (mkF mM 243 Ls283 [])) _
          refine XS.iconst X267.here hx rfl (hb hby at_243) ?_
          show Steps pP.tables eE below (T267.setTop (mkF mM 244 Ls283 [(.int (0 : Int32))])) _
          refine XS.istore X267.here hx rfl (hb hby at_244) rfl (l' := Ls286) rfl ?_
          show Steps pP.tables eE below (T267.setTop (mkF mM 246 Ls286 [])) _
          refine XS.aload X267.here hx rfl (hb hby at_246) rfl rfl ?_
          show Steps pP.tables eE below (T267.setTop (mkF mM 248 Ls286 [(.ref b178)])) _
          refine st287.trans ?_
          show Steps pP.tables eE below (T287.setTop (mkF mM 251 Ls286 [(.int (own_is ((0 : Int32) + (1 : Int32)) (Int32.ofNat (own_endOf [(p0 &&& (255 : Int32)), (p1 &&& (255 : Int32)), (p2 &&& (255 : Int32))] (own_dl p3) f tt)) (Int32.ofNat tt)))])) _
          refine XS.iload X287.here hx rfl (hb hby at_251) rfl ?_
          show Steps pP.tables eE below (T287.setTop (mkF mM 253 Ls286 [(.int (0 : Int32)), (.int (own_is ((0 : Int32) + (1 : Int32)) (Int32.ofNat (own_endOf [(p0 &&& (255 : Int32)), (p1 &&& (255 : Int32)), (p2 &&& (255 : Int32))] (own_dl p3) f tt)) (Int32.ofNat tt)))])) _
          refine XS.icmpNo X287.here hx rfl (hb hby at_253) rfl (teq (by rw [own_is1, own_fd0 hft htt |>.mp hc284, if_neg (own_nlt (by omega) (by omega))])).2 ?_
          show Steps pP.tables eE below (T287.setTop (mkF mM 256 Ls286 [])) _
          refine XS.iconst X287.here hx rfl (hb hby at_256) ?_
          show Steps pP.tables eE below (T287.setTop (mkF mM 257 Ls286 [(.int (1 : Int32))])) _
          refine XS.goto X287.here hx rfl (pc0 := 257) (pc' := 261) rfl (hb hby at_257) (by decide) (by decide) ?_
          show Steps pP.tables eE below (T287.setTop (mkF mM 261 Ls286 [(.int (1 : Int32))])) _
          exact retN X287 hx (t := .boolean) Bd.returns (by simp) (hb hby at_261) hr
        · show Q_law Z p0 p1 p2 p3 p4 p5 zc fm h0 n0 _ T287.heap _
          rw [Kq287]
          exact ⟨rfl, N191, K192⟩
      · let Ls289 : Array Slot := #[.val (.int p0), .val (.int p1), .val (.int p2), .val (.int p3), .val (.int p4), .val (.int p5), .val (.ref b1), .val (.ref b10), .val (.int (own_dl p3)), .val (.int (Int32.ofNat tt)), .val (.int (Int32.ofNat f)), .val (.int (3 : Int32)), .val (.ref b178), .val (.int (own_fd (own_dl p3) (Int32.ofNat f) (Int32.ofNat tt) (p0 &&& (255 : Int32)) (p1 &&& (255 : Int32)) (p2 &&& (255 : Int32)))), .val (.int (1 : Int32))]
        obtain ⟨cq290, kq290, q290a, q290b, q290c⟩ := isOf hZ e267 q191_0
        obtain ⟨_, _, ⟨T290, L290, k290, n290⟩, -, X290, ⟨Lc290, hQ290, l290, y290, z290⟩, st290⟩ := X267.virtualBack hx (y := (⟨"com/example/resultwire/resultwire/er7/Pieces", "isSplit", "()Z"⟩ : MethodName)) (z := (⟨"com/example/resultwire/resultwire/er7/Pieces", "isSplit", "()Z"⟩ : MethodName)) hown (mvT hZ (w_79 hw)) (mvT hZ (w_80 hw)) (notFace_of_selects (args := #[]) (mvT hZ (w_82 hw))) (mvT hZ (w_82 hw)) (mvT hZ (w_81 hw)) (by decide) (backOf (W := 0) (rm_isp l Z a0 hw [] b178 ((0 : Int32) + (1 : Int32)) (Int32.ofNat (own_endOf [(p0 &&& (255 : Int32)), (p1 &&& (255 : Int32)), (p2 &&& (255 : Int32))] (own_dl p3) f tt)) (Int32.ofNat tt) T191.heap n0 f193 q191_7 q191_6 q191_3) hZ (w_83 hw) (w_32 hw) (by decide) (by decide)) q290a q290c (g := (mkF mM 248 Ls289 [(.ref b178)])) rfl (by rw [hml]; rfl) (Steps.refl _) (argsL := []) (rest := []) (lenOf pd_3 rfl) rfl (by show 2 * 0 + _ ≤ _; exact Nat.le_of_eq rfl) (hb hby at_248) (fun _ _ => ⟨rfl, e267, (by decide : 4 + 0 ≤ _), (by decide : 17 + 0 ≤ _)⟩)
        dsimp only [Pt.U, Pt.locs, Pt.cells, Pt.slots] at X290 l290 y290 z290 st290 hQ290
        subst l290 y290 z290
        obtain ⟨rfl, rfl, Kq290⟩ := hQ290
        try rw [List.append_nil] at X290
        exact absurd (own_fd0 hft htt |>.mpr (by have := (own_endOf_bd (cs := [(p0 &&& (255 : Int32)), (p1 &&& (255 : Int32)), (p2 &&& (255 : Int32))]) (d := own_dl p3) hft); omega)) hc284
set_option maxRecDepth 65536 in
set_option maxHeartbeats 40000000 in
theorem comes_1 {Post : Tables → Env → Array Value → State → Outcome → State → Prop} (hpost : ∀ tb e args s v u, (limb_1_1.after args s (.returned v) u = true ∧ limb_1_2.after args s (.returned v) u = true ∧ True) → FrameEnd s (.returned v) u (Jvm.fieldLocs frame_1_writes args s ++ Jvm.arrayLocs frame_1_arrays args s ++ Jvm.staticLocs frame_1_statics s) 16 128 → Post tb e args s (.returned v) u) :
    ArmFor flags0 classFile x code maxLocals ret World_1 tables_1 room_1 Calls_1 rest_1 Pre_1 Post := by
  intro l hfl _ _ p e ha hc hk s m args below hf hA hF happ hP
  obtain ⟨hcalls, hrest, hpre⟩ := hP
  obtain ⟨-, -, -, hnamed, -, -, -, hat⟩ := (Spec.applies_iff hf).mp happ
  obtain ⟨hg, hn⟩ := and_e (Cond.before_iff.mp (show (Jvm.Cond.and given_1 narrow_1).before args s = true from hpre))
  obtain ⟨hcnt, hg0⟩ := and_e hg
  obtain ⟨ga0, hg1⟩ := and_e hg0
  obtain ⟨ga1, hg2⟩ := and_e hg1
  obtain ⟨ga2, hg3⟩ := and_e hg2
  obtain ⟨ga3, hg4⟩ := and_e hg3
  obtain ⟨ga4, hg5⟩ := and_e hg4
  have ga5 := hg5
  obtain ⟨w0, w1, w2, w3, w4, w5, rfl⟩ : ∃ w0 w1 w2 w3 w4 w5 : Value, args = #[w0, w1, w2, w3, w4, w5] := by
    have hs : args.size = 6 := by simpa [Cond.value, given_1] using hcnt
    obtain ⟨L⟩ := args
    match L, hs with
    | [w0, w1, w2, w3, w4, w5], _ => exact ⟨w0, w1, w2, w3, w4, w5, rfl⟩
  have hw := fun d (hd : d ∈ tables_1) => atoms_spec (ws := Jvm.Cond.code x code maxLocals ret :: tables_1) hat d (List.mem_cons_of_mem _ hd)
  have hfit : Fit s := fun {y c} hc i hi => by
    obtain ⟨ha, rfl⟩ := Array.getElem?_eq_some_iff.mp hc
    have q := List.all_eq_true.mp ((Array.all_eq_true_iff_forall_mem.mp hF) _ (Array.getElem_mem ha)) i (List.mem_range.mpr hi)
    simpa [Array.getElem?_eq_getElem hi] using q
  obtain ⟨i0, ei0⟩ := is_v ga0
  obtain rfl : w0 = (.int i0) := Option.some.inj ei0
  obtain ⟨i1, ei1⟩ := is_v ga1
  obtain rfl : w1 = (.int i1) := Option.some.inj ei1
  obtain ⟨i2, ei2⟩ := is_v ga2
  obtain rfl : w2 = (.int i2) := Option.some.inj ei2
  obtain ⟨i3, ei3⟩ := is_v ga3
  obtain rfl : w3 = (.int i3) := Option.some.inj ei3
  obtain ⟨i4, ei4⟩ := is_v ga4
  obtain rfl : w4 = (.int i4) := Option.some.inj ei4
  obtain ⟨i5, ei5⟩ := is_v ga5
  obtain rfl : w5 = (.int i5) := Option.some.inj ei5
  obtain ⟨hsets, hown0⟩ := atoms_of _ (rest_1_c_eq ▸ (show rest_1_c.before _ s = true from hrest))
  have hr0 := Cond.before_iff.mp hown0
  have nzc := not_v (Cond.before_iff.mp (hsets _ (List.mem_of_getElem? (i := 2) rfl)))
  obtain ⟨zc, ezc⟩ := is_v (Cond.before_iff.mp (hsets _ (List.mem_of_getElem? (i := 1) rfl)))
  have Szc : Sta s s.heap "java/lang/String" "COMPACT_STRINGS" "Z" (.int zc) := Sta.start ezc (Or.inl (hsets _ (List.mem_of_getElem? (i := 0) rfl)))
  obtain ⟨fm, efm, rfm⟩ := isR_v (Cond.before_iff.mp (hsets _ (List.mem_of_getElem? (i := 8) rfl)))
  have Sfm : Sta s s.heap "jdk/internal/util/Preconditions" "SIOOBE_FORMATTER" "Ljava/util/function/BiFunction;" fm := Sta.start efm (Or.inl (hsets _ (List.mem_of_getElem? (i := 7) rfl)))
  have hzc : ¬ (zc = (0 : Int32)) := gotF (Cond.eq_ints ezc (Term.int_eval (0))) nzc
  obtain ⟨n, o, h1, h2, h3, _, L, rfl, ⟨rfl, N, _⟩, hq⟩ := rm_law l s _ hw tables_1 i0 i1 i2 i3 i4 i5 zc fm s.heap s.heap.size (Old.start s) Szc hzc Sfm rfm p e ha hc hk s m _ below hf ((Spec.applies_iff_loose hf).mp happ).1 ⟨rfl, State.Warmed39.refl s, rfl⟩ trivial
  refine ⟨n, _, h1, h2, h3, hpost _ _ _ _ _ _ ⟨Cond.after_iff.mpr rfl, Cond.after_iff.mpr (eq_i res_at (Term.int_eval (1)) rfl), trivial⟩ ⟨hq.1, hq.2.1, (hq.2.2.sift fun y hy => Or.inr (N y hy)).mono (by decide) (by decide)⟩⟩
theorem main_1_1 : Claimed_1_1 := comes_1 fun _ _ _ _ _ _ h hF => ⟨h.1, hF⟩
theorem main_1_2 : Claimed_1_2 := comes_1 fun _ _ _ _ _ _ h hF => ⟨h.2.1, hF⟩
end Jvm.Pilot.@@N@@
namespace Jvm.Pilot.@@N@@
open Jvm Jvm.ClassFile Sem Op Lib Jvm.Free Jvm.Stand Jvm.Pilot.@@N@@.Jvm.D
/-! MADE BY PROGRAM (witnessworld.py) out of the Statement's table words and the real class files: 21 classes; the members and pool entries that the words name. The judged class is class 1, her method 1. -/
namespace start1
open Jvm.ClassFile
def u (s : String) : CpInfo := .utf8 (stringToUtf16 s)
/-- a pool by its gaps: so many unusable entries, then the entry; so many at the end -/
def gap : Nat → List CpInfo → List CpInfo
  | 0, r => r
  | n + 1, r => .unusable :: gap n r
def poolList (es : List (Nat × CpInfo)) (last : Nat) : List CpInfo := es.foldr (fun e r => gap e.1 (e.2 :: r)) (gap last [])
def pool (es : List (Nat × CpInfo)) (last : Nat) : Array CpInfo := ⟨poolList es last⟩
def fileOf (pool : Array CpInfo) (this : Nat) (attrs : Array Attribute := #[]) (ms : Array MethodInfo := #[]) (fl : Nat := 33) (sup : Nat := 0) (ifs : Array Nat := #[]) (fds : Array FieldInfo := #[]) : ClassFile where
  minorVersion := 0
  majorVersion := 65
  constantPool := pool
  accessFlags := fl
  thisClass := this
  superClass := sup
  interfaces := ifs
  fields := fds
  methods := ms
  attributes := attrs
def plain (name : String) (sup : Option ClassId) : Class where
  name := name
  kind := .ordinary
  loader := none
  accessFlags := 33
  super := sup
  interfaces := #[]
  cf := none
  fields := #[]
  methods := #[]
  instanceTypes := #[]
  staticTypes := #[]
  resolved := #[]
  callSites := []
  init := .initialized
  statics := none
  mirror := none

def pool0 : Array CpInfo := pool [(5, u "<init>"), (0, u "()V"), (1, .class_ 10), (1, u "java/lang/Object")] 113

def k0c0 : Code := { maxStack := 0, maxLocals := 1, code := object_method_1_code, exceptionTable := #[], attributes := #[] }
def k0m0 : Method := { name := "<init>", desc := "()V", sig := { parameters := [], returnType := none }, accessFlags := 1, code := some k0c0 }
/-- java/lang/Object -/
def k0 : Class := { plain "java/lang/Object" none with
  accessFlags := 33
  interfaces := #[]
  cf := some (fileOf pool0 8 #[] #[{ accessFlags := 1, nameIndex := 5, descriptorIndex := 6, attributes := #[] }] 33 0 #[] #[])
  fields := #[]
  methods := #[k0m0]
  instanceTypes := #[]
  staticTypes := #[]
  resolved := Array.replicate 124 none
  statics := none }

def pool1 : Array CpInfo := pool [(2, .class_ 4), (1, u "java/lang/Object"), (0, u "<init>"), (0, u "()V"), (0, .class_ 8), (0, u "java/lang/String"), (0, .methodref 7 10), (0, .nameAndType 5 11), (0, u "([C)V"), (2, .class_ 15), (0, u "com/example/resultwire/resultwire/er7/Pieces"), (0, .methodref 14 17), (0, .nameAndType 5 18), (0, u "(Ljava/lang/String;III)V"), (0, .methodref 14 20), (0, .nameAndType 21 22), (0, u "hasNext"), (0, u "()Z"), (0, .methodref 14 24), (0, .nameAndType 25 6), (0, u "advance"), (0, .methodref 27 28), (0, .class_ 29), (0, .nameAndType 30 31), (0, u "com/example/resultwire/resultwire/er7/PiecesIsSplitPinLaw"), (0, u "hit"), (0, u "(CIIII)Z"), (0, .methodref 14 33), (0, .nameAndType 34 22), (0, u "isSplit"), (2, u "law"), (0, u "(IIIIII)Z")] 5

def k1m0 : Method := { name := "<init>", desc := "()V", sig := { parameters := [], returnType := none }, accessFlags := 1, code := none }
def k1c1 : Code := { maxStack := 6, maxLocals := 15, code := code, exceptionTable := #[], attributes := #[] }
def k1m1 : Method := { name := "law", desc := "(IIIIII)Z", sig := { parameters := [.int, .int, .int, .int, .int, .int], returnType := some .boolean }, accessFlags := 9, code := some k1c1 }
def k1c2 : Code := { maxStack := 2, maxLocals := 5, code := method_3_code, exceptionTable := #[], attributes := #[] }
def k1m2 : Method := { name := "hit", desc := "(CIIII)Z", sig := { parameters := [.char, .int, .int, .int, .int], returnType := some .boolean }, accessFlags := 10, code := some k1c2 }
/-- com/example/resultwire/resultwire/er7/PiecesIsSplitPinLaw -/
def k1 : Class := { plain "com/example/resultwire/resultwire/er7/PiecesIsSplitPinLaw" (some 0) with
  accessFlags := 49
  interfaces := #[]
  cf := some (fileOf pool1 27 #[] #[{ accessFlags := 1, nameIndex := 5, descriptorIndex := 6, attributes := #[] }, { accessFlags := 9, nameIndex := 37, descriptorIndex := 38, attributes := #[] }, { accessFlags := 10, nameIndex := 30, descriptorIndex := 31, attributes := #[] }] 49 2 #[] #[])
  fields := #[]
  methods := #[k1m0, k1m1, k1m2]
  instanceTypes := #[]
  staticTypes := #[]
  resolved := Array.replicate 44 none
  statics := none }

def pool2 : Array CpInfo := pool [(1, .class_ 2), (0, u "java/io/Serializable"), (0, .class_ 4), (0, u "java/lang/Object")] 2

/-- java/io/Serializable -/
def k2 : Class := { plain "java/io/Serializable" (some 0) with
  accessFlags := 1537
  interfaces := #[]
  cf := some (fileOf pool2 1 #[] #[] 1537 3 #[] #[])
  fields := #[]
  methods := #[]
  instanceTypes := #[]
  staticTypes := #[]
  resolved := Array.replicate 7 none
  statics := none }

def pool3 : Array CpInfo := pool [(1, .class_ 2), (0, u "java/lang/Comparable"), (0, .class_ 4), (0, u "java/lang/Object")] 7

/-- java/lang/Comparable -/
def k3 : Class := { plain "java/lang/Comparable" (some 0) with
  accessFlags := 1537
  interfaces := #[]
  cf := some (fileOf pool3 1 #[] #[] 1537 3 #[] #[])
  fields := #[]
  methods := #[]
  instanceTypes := #[]
  staticTypes := #[]
  resolved := Array.replicate 12 none
  statics := none }

def pool4 : Array CpInfo := pool [(2, .class_ 4), (1, u "java/lang/CharSequence"), (42, .class_ 48), (0, u "java/lang/CharSequence$1CodePointIterator"), (10, .class_ 60), (0, u "java/lang/CharSequence$1CharIterator"), (5, .class_ 67), (0, u "java/lang/Object")] 63

/-- java/lang/CharSequence -/
def k4 : Class := { plain "java/lang/CharSequence" (some 0) with
  accessFlags := 1537
  interfaces := #[]
  cf := some (fileOf pool4 2 #[.nestMembers #[47, 59]] #[] 1537 66 #[] #[])
  fields := #[]
  methods := #[]
  instanceTypes := #[]
  staticTypes := #[]
  resolved := Array.replicate 131 none
  statics := none }

def pool5 : Array CpInfo := pool [(1, .class_ 2), (0, u "java/lang/constant/Constable"), (0, .class_ 4), (0, u "java/lang/Object")] 6

/-- java/lang/constant/Constable -/
def k5 : Class := { plain "java/lang/constant/Constable" (some 0) with
  accessFlags := 1537
  interfaces := #[]
  cf := some (fileOf pool5 1 #[] #[] 1537 3 #[] #[])
  fields := #[]
  methods := #[]
  instanceTypes := #[]
  staticTypes := #[]
  resolved := Array.replicate 11 none
  statics := none }

def pool6 : Array CpInfo := pool [(1, .class_ 2), (0, u "java/lang/constant/ConstantDesc"), (0, .class_ 4), (0, u "java/lang/Object")] 32

/-- java/lang/constant/ConstantDesc -/
def k6 : Class := { plain "java/lang/constant/ConstantDesc" (some 0) with
  accessFlags := 1537
  interfaces := #[]
  cf := some (fileOf pool6 1 #[] #[] 1537 3 #[] #[])
  fields := #[]
  methods := #[]
  instanceTypes := #[]
  staticTypes := #[]
  resolved := Array.replicate 37 none
  statics := none }

def pool7 : Array CpInfo := pool [(1, .methodref 2 3), (0, .class_ 4), (0, .nameAndType 5 6), (0, u "java/lang/Object"), (0, u "<init>"), (0, u "()V"), (2, .fieldref 10 11), (0, .class_ 12), (0, .nameAndType 13 14), (0, u "java/lang/String"), (0, u "value"), (0, u "[B"), (0, .fieldref 10 16), (0, .nameAndType 17 18), (0, u "coder"), (0, u "B"), (2, u "hash"), (0, u "I"), (2, u "hashIsZero"), (0, u "Z"), (0, .methodref 10 28), (0, .nameAndType 5 29), (0, u "([CIILjava/lang/Void;)V"), (8, .fieldref 10 39), (0, .nameAndType 40 26), (0, u "COMPACT_STRINGS"), (1, .class_ 44), (1, u "java/lang/StringUTF16"), (0, u "compress"), (1, .methodref 42 48), (0, .nameAndType 49 50), (0, u "coderFromArrayLen"), (0, u "([BI)B"), (56, .class_ 109), (1, u "java/lang/StringLatin1"), (32, u "()Z"), (34, .methodref 42 178), (0, .nameAndType 45 179), (0, u "([CII)[B"), (154, u "()I"), (0, .methodref 10 336), (0, .nameAndType 17 337), (0, u "()B"), (25, u "([BI)C"), (27, u "(II)V"), (35, u "(I)C"), (64, .methodref 10 493), (0, .nameAndType 494 142), (0, u "isLatin1"), (0, .methodref 107 496), (0, .nameAndType 497 363), (0, u "charAt"), (3, u "checkIndex"), (3, .methodref 10 506), (0, .nameAndType 507 334), (0, u "length"), (67, .class_ 576), (0, u "java/lang/CharSequence"), (22, u "CASE_INSENSITIVE_ORDER"), (0, u "Ljava/util/Comparator;"), (34, u "indexOf"), (0, u "(II)I"), (0, .methodref 107 638), (0, .nameAndType 635 639), (0, u "([BIII)I"), (370, u "([C)V"), (42, .fieldref 1054 1055), (0, .class_ 1056), (0, .nameAndType 1057 1058), (0, u "jdk/internal/util/Preconditions"), (0, u "SIOOBE_FORMATTER"), (0, u "Ljava/util/function/BiFunction;"), (0, .methodref 1054 1060), (0, .nameAndType 501 1061), (0, u "(IILjava/util/function/BiFunction;)I"), (39, u "serialPersistentFields"), (0, u "[Ljava/io/ObjectStreamField;"), (0, .class_ 1104), (0, u "java/lang/String$CaseInsensitiveComparator"), (1, .class_ 1107), (0, u "java/io/Serializable"), (0, .class_ 1109), (0, u "java/lang/Comparable"), (0, .class_ 1111), (0, u "java/lang/constant/Constable"), (0, .class_ 1113), (0, u "java/lang/constant/ConstantDesc"), (2, u "serialVersionUID"), (0, u "J"), (3, u "REPL"), (0, u "C"), (2, u "LATIN1"), (1, u "UTF16")] 323

def k7m0 : Method := { name := "<init>", desc := "()V", sig := { parameters := [], returnType := none }, accessFlags := 1, code := none }
def k7c1 : Code := { maxStack := 5, maxLocals := 2, code := jdk_42_method_3_code, exceptionTable := #[], attributes := #[] }
def k7m1 : Method := { name := "<init>", desc := "([C)V", sig := { parameters := [(.array .char)], returnType := none }, accessFlags := 1, code := some k7c1 }
def k7c2 : Code := { maxStack := 2, maxLocals := 1, code := jdk_42_method_54_code, exceptionTable := #[], attributes := #[] }
def k7m2 : Method := { name := "length", desc := "()I", sig := { parameters := [], returnType := some .int }, accessFlags := 1, code := some k7c2 }
def k7c3 : Code := { maxStack := 2, maxLocals := 2, code := jdk_42_method_56_code, exceptionTable := #[], attributes := #[] }
def k7m3 : Method := { name := "charAt", desc := "(I)C", sig := { parameters := [.int], returnType := some .char }, accessFlags := 1, code := some k7c3 }
def k7c4 : Code := { maxStack := 4, maxLocals := 3, code := jdk_42_method_80_code, exceptionTable := #[], attributes := #[] }
def k7m4 : Method := { name := "indexOf", desc := "(II)I", sig := { parameters := [.int, .int], returnType := some .int }, accessFlags := 1, code := some k7c4 }
def k7c5 : Code := { maxStack := 4, maxLocals := 6, code := jdk_42_method_149_code, exceptionTable := #[], attributes := #[] }
def k7m5 : Method := { name := "<init>", desc := "([CIILjava/lang/Void;)V", sig := { parameters := [(.array .char), .int, .int, (.object "java/lang/Void")], returnType := none }, accessFlags := 2, code := some k7c5 }
def k7c6 : Code := { maxStack := 1, maxLocals := 1, code := jdk_42_method_152_code, exceptionTable := #[], attributes := #[] }
def k7m6 : Method := { name := "coder", desc := "()B", sig := { parameters := [], returnType := some .byte }, accessFlags := 0, code := some k7c6 }
def k7c7 : Code := { maxStack := 1, maxLocals := 1, code := jdk_42_method_154_code, exceptionTable := #[], attributes := #[] }
def k7m7 : Method := { name := "isLatin1", desc := "()Z", sig := { parameters := [], returnType := some .boolean }, accessFlags := 0, code := some k7c7 }
def k7c8 : Code := { maxStack := 3, maxLocals := 2, code := jdk_42_method_155_code, exceptionTable := #[], attributes := #[] }
def k7m8 : Method := { name := "checkIndex", desc := "(II)V", sig := { parameters := [.int, .int], returnType := none }, accessFlags := 8, code := some k7c8 }
/-- java/lang/String -/
def k7 : Class := { plain "java/lang/String" (some 0) with
  accessFlags := 49
  interfaces := #[2, 3, 4, 5, 6]
  cf := some (fileOf pool7 10 #[.nestMembers #[1103]] #[{ accessFlags := 1, nameIndex := 5, descriptorIndex := 6, attributes := #[] }, { accessFlags := 1, nameIndex := 5, descriptorIndex := 1010, attributes := #[] }, { accessFlags := 1, nameIndex := 507, descriptorIndex := 334, attributes := #[] }, { accessFlags := 1, nameIndex := 497, descriptorIndex := 427, attributes := #[] }, { accessFlags := 1, nameIndex := 635, descriptorIndex := 636, attributes := #[] }, { accessFlags := 2, nameIndex := 5, descriptorIndex := 29, attributes := #[] }, { accessFlags := 0, nameIndex := 17, descriptorIndex := 337, attributes := #[] }, { accessFlags := 0, nameIndex := 494, descriptorIndex := 142, attributes := #[] }, { accessFlags := 8, nameIndex := 501, descriptorIndex := 391, attributes := #[] }] 49 2 #[1106, 1108, 575, 1110, 1112] #[{ accessFlags := 18, nameIndex := 13, descriptorIndex := 14, attributes := #[] }, { accessFlags := 18, nameIndex := 17, descriptorIndex := 18, attributes := #[] }, { accessFlags := 2, nameIndex := 21, descriptorIndex := 22, attributes := #[] }, { accessFlags := 2, nameIndex := 25, descriptorIndex := 26, attributes := #[] }, { accessFlags := 26, nameIndex := 1116, descriptorIndex := 1117, attributes := #[] }, { accessFlags := 24, nameIndex := 40, descriptorIndex := 26, attributes := #[] }, { accessFlags := 26, nameIndex := 1101, descriptorIndex := 1102, attributes := #[] }, { accessFlags := 26, nameIndex := 1121, descriptorIndex := 1122, attributes := #[] }, { accessFlags := 25, nameIndex := 599, descriptorIndex := 600, attributes := #[] }, { accessFlags := 24, nameIndex := 1125, descriptorIndex := 18, attributes := #[] }, { accessFlags := 24, nameIndex := 1127, descriptorIndex := 18, attributes := #[] }])
  fields := #[{ name := "value", type := (.array .byte), accessFlags := 18, slot := 0, constantValue := 0 }, { name := "coder", type := .byte, accessFlags := 18, slot := 1, constantValue := 0 }, { name := "hash", type := .int, accessFlags := 2, slot := 2, constantValue := 0 }, { name := "hashIsZero", type := .boolean, accessFlags := 2, slot := 3, constantValue := 0 }, { name := "serialVersionUID", type := .long, accessFlags := 26, slot := 0, constantValue := 0 }, { name := "COMPACT_STRINGS", type := .boolean, accessFlags := 24, slot := 1, constantValue := 0 }, { name := "serialPersistentFields", type := (.array (.object "java/io/ObjectStreamField")), accessFlags := 26, slot := 2, constantValue := 0 }, { name := "REPL", type := .char, accessFlags := 26, slot := 3, constantValue := 0 }, { name := "CASE_INSENSITIVE_ORDER", type := (.object "java/util/Comparator"), accessFlags := 25, slot := 4, constantValue := 0 }, { name := "LATIN1", type := .byte, accessFlags := 24, slot := 5, constantValue := 0 }, { name := "UTF16", type := .byte, accessFlags := 24, slot := 6, constantValue := 0 }]
  methods := #[k7m0, k7m1, k7m2, k7m3, k7m4, k7m5, k7m6, k7m7, k7m8]
  instanceTypes := #[(.array .byte), .byte, .int, .boolean]
  staticTypes := #[.long, .boolean, (.array (.object "java/io/ObjectStreamField")), .char, (.object "java/util/Comparator"), .byte, .byte]
  resolved := Array.replicate 1451 none
  statics := some 0 }

def pool8 : Array CpInfo := pool [(6, .class_ 8), (1, u "java/lang/Object"), (0, u "<init>"), (0, u "()V"), (1, .class_ 14), (1, u "java/lang/StringUTF16"), (31, u "$assertionsDisabled"), (0, u "Z"), (13, u "HI_BYTE_SHIFT"), (0, u "I"), (2, u "LO_BYTE_SHIFT"), (49, .methodref 12 116), (0, .nameAndType 117 118), (0, u "compress"), (0, u "([CI[BII)I"), (3, u "([CII)[B"), (138, u "coderFromArrayLen"), (0, u "([BI)B"), (106, .class_ 371), (1, u "java/lang/StringUTF16$LinesSpliterator"), (58, u "MAX_LENGTH"), (196, .class_ 628), (0, u "java/lang/StringUTF16$CodePointsSpliterator"), (0, .class_ 630), (0, u "java/lang/StringUTF16$CharsSpliterator")] 4

def k8m0 : Method := { name := "<init>", desc := "()V", sig := { parameters := [], returnType := none }, accessFlags := 0, code := none }
def k8c1 : Code := { maxStack := 2, maxLocals := 2, code := jdk_52_method_15_code, exceptionTable := #[], attributes := #[] }
def k8m1 : Method := { name := "coderFromArrayLen", desc := "([BI)B", sig := { parameters := [(.array .byte), .int], returnType := some .byte }, accessFlags := 8, code := some k8c1 }
def k8c2 : Code := { maxStack := 5, maxLocals := 6, code := jdk_52_method_16_code, exceptionTable := #[], attributes := #[] }
def k8m2 : Method := { name := "compress", desc := "([CII)[B", sig := { parameters := [(.array .char), .int, .int], returnType := some (.array .byte) }, accessFlags := 9, code := some k8c2 }
def k8c3 : Code := { maxStack := 3, maxLocals := 7, code := jdk_52_method_21_code, exceptionTable := #[], attributes := #[] }
def k8m3 : Method := { name := "compress", desc := "([CI[BII)I", sig := { parameters := [(.array .char), .int, (.array .byte), .int, .int], returnType := some .int }, accessFlags := 9, code := some k8c3 }
/-- java/lang/StringUTF16 -/
def k8 : Class := { plain "java/lang/StringUTF16" (some 0) with
  accessFlags := 48
  interfaces := #[]
  cf := some (fileOf pool8 12 #[.nestMembers #[627, 629, 369]] #[{ accessFlags := 0, nameIndex := 9, descriptorIndex := 10, attributes := #[] }, { accessFlags := 8, nameIndex := 261, descriptorIndex := 262, attributes := #[] }, { accessFlags := 9, nameIndex := 117, descriptorIndex := 122, attributes := #[] }, { accessFlags := 9, nameIndex := 117, descriptorIndex := 118, attributes := #[] }] 48 6 #[] #[{ accessFlags := 26, nameIndex := 61, descriptorIndex := 62, attributes := #[] }, { accessFlags := 26, nameIndex := 65, descriptorIndex := 62, attributes := #[] }, { accessFlags := 24, nameIndex := 430, descriptorIndex := 62, attributes := #[] }, { accessFlags := 4120, nameIndex := 46, descriptorIndex := 47, attributes := #[] }])
  fields := #[{ name := "HI_BYTE_SHIFT", type := .int, accessFlags := 26, slot := 0, constantValue := 0 }, { name := "LO_BYTE_SHIFT", type := .int, accessFlags := 26, slot := 1, constantValue := 0 }, { name := "MAX_LENGTH", type := .int, accessFlags := 24, slot := 2, constantValue := 0 }, { name := "$assertionsDisabled", type := .boolean, accessFlags := 4120, slot := 3, constantValue := 0 }]
  methods := #[k8m0, k8m1, k8m2, k8m3]
  instanceTypes := #[]
  staticTypes := #[.int, .int, .int, .boolean]
  resolved := Array.replicate 635 none
  statics := none }

def pool9 : Array CpInfo := pool [(1, .methodref 2 3), (0, .class_ 4), (0, .nameAndType 5 6), (0, u "java/lang/Object"), (0, u "<init>"), (0, u "()V"), (0, .fieldref 8 9), (0, .class_ 10), (0, .nameAndType 11 12), (0, u "com/example/resultwire/resultwire/er7/Pieces"), (0, u "m_sText"), (0, u "Ljava/lang/String;"), (0, .fieldref 8 14), (0, .nameAndType 15 16), (0, u "m_nDelimiter"), (0, u "I"), (0, .fieldref 8 18), (0, .nameAndType 19 16), (0, u "m_nTo"), (0, .fieldref 8 21), (0, .nameAndType 22 16), (0, u "m_nFrom"), (0, .fieldref 8 24), (0, .nameAndType 25 16), (0, u "m_nStart"), (0, .fieldref 8 27), (0, .nameAndType 28 16), (0, u "m_nEnd"), (6, u "(Ljava/lang/String;III)V"), (0, .methodref 37 38), (0, .class_ 39), (0, .nameAndType 40 41), (0, u "java/lang/String"), (0, u "length"), (0, u "()I"), (0, .methodref 37 43), (0, .nameAndType 44 45), (0, u "indexOf"), (0, u "(II)I"), (0, .methodref 37 47), (0, .nameAndType 48 49), (0, u "charAt"), (0, u "(I)C"), (0, .fieldref 8 51), (0, .nameAndType 52 16), (0, u "m_nNumber"), (0, .methodref 8 54), (0, .nameAndType 55 56), (0, u "hasNext"), (0, u "()Z"), (3, .methodref 8 61), (0, .nameAndType 62 63), (0, u "endOf"), (0, u "(Ljava/lang/String;III)I"), (5, u "isSplit"), (3, u "advance")] 4

def k9c0 : Code := { maxStack := 2, maxLocals := 5, code := prog_141_method_1_code, exceptionTable := #[], attributes := #[] }
def k9m0 : Method := { name := "<init>", desc := "(Ljava/lang/String;III)V", sig := { parameters := [(.object "java/lang/String"), .int, .int, .int], returnType := none }, accessFlags := 0, code := some k9c0 }
def k9c1 : Code := { maxStack := 3, maxLocals := 6, code := prog_141_method_3_code, exceptionTable := #[], attributes := #[] }
def k9m1 : Method := { name := "endOf", desc := "(Ljava/lang/String;III)I", sig := { parameters := [(.object "java/lang/String"), .int, .int, .int], returnType := some .int }, accessFlags := 8, code := some k9c1 }
def k9c2 : Code := { maxStack := 2, maxLocals := 1, code := prog_141_method_4_code, exceptionTable := #[], attributes := #[] }
def k9m2 : Method := { name := "isSplit", desc := "()Z", sig := { parameters := [], returnType := some .boolean }, accessFlags := 0, code := some k9c2 }
def k9c3 : Code := { maxStack := 5, maxLocals := 1, code := prog_141_method_8_code, exceptionTable := #[], attributes := #[] }
def k9m3 : Method := { name := "advance", desc := "()V", sig := { parameters := [], returnType := none }, accessFlags := 0, code := some k9c3 }
def k9c4 : Code := { maxStack := 2, maxLocals := 1, code := prog_141_method_9_code, exceptionTable := #[], attributes := #[] }
def k9m4 : Method := { name := "hasNext", desc := "()Z", sig := { parameters := [], returnType := some .boolean }, accessFlags := 0, code := some k9c4 }
/-- com/example/resultwire/resultwire/er7/Pieces -/
def k9 : Class := { plain "com/example/resultwire/resultwire/er7/Pieces" (some 0) with
  accessFlags := 48
  interfaces := #[]
  cf := some (fileOf pool9 8 #[] #[{ accessFlags := 0, nameIndex := 5, descriptorIndex := 35, attributes := #[] }, { accessFlags := 8, nameIndex := 62, descriptorIndex := 63, attributes := #[] }, { accessFlags := 0, nameIndex := 69, descriptorIndex := 56, attributes := #[] }, { accessFlags := 0, nameIndex := 73, descriptorIndex := 6, attributes := #[] }, { accessFlags := 0, nameIndex := 55, descriptorIndex := 56, attributes := #[] }] 48 2 #[] #[{ accessFlags := 18, nameIndex := 11, descriptorIndex := 12, attributes := #[] }, { accessFlags := 18, nameIndex := 15, descriptorIndex := 16, attributes := #[] }, { accessFlags := 18, nameIndex := 19, descriptorIndex := 16, attributes := #[] }, { accessFlags := 2, nameIndex := 22, descriptorIndex := 16, attributes := #[] }, { accessFlags := 2, nameIndex := 52, descriptorIndex := 16, attributes := #[] }, { accessFlags := 2, nameIndex := 25, descriptorIndex := 16, attributes := #[] }, { accessFlags := 2, nameIndex := 28, descriptorIndex := 16, attributes := #[] }])
  fields := #[{ name := "m_sText", type := (.object "java/lang/String"), accessFlags := 18, slot := 0, constantValue := 0 }, { name := "m_nDelimiter", type := .int, accessFlags := 18, slot := 1, constantValue := 0 }, { name := "m_nTo", type := .int, accessFlags := 18, slot := 2, constantValue := 0 }, { name := "m_nFrom", type := .int, accessFlags := 2, slot := 3, constantValue := 0 }, { name := "m_nNumber", type := .int, accessFlags := 2, slot := 4, constantValue := 0 }, { name := "m_nStart", type := .int, accessFlags := 2, slot := 5, constantValue := 0 }, { name := "m_nEnd", type := .int, accessFlags := 2, slot := 6, constantValue := 0 }]
  methods := #[k9m0, k9m1, k9m2, k9m3, k9m4]
  instanceTypes := #[(.object "java/lang/String"), .int, .int, .int, .int, .int, .int]
  staticTypes := #[]
  resolved := Array.replicate 78 none
  statics := none }

def pool10 : Array CpInfo := pool [(1, .class_ 2), (0, u "java/lang/String"), (1, .class_ 6), (1, u "java/lang/Object"), (0, u "<init>"), (0, u "()V"), (0, .methodref 1 10), (0, .nameAndType 11 12), (0, u "checkIndex"), (0, u "(II)V"), (1, .class_ 16), (1, u "java/lang/StringLatin1"), (21, .methodref 39 40), (0, .class_ 41), (0, .nameAndType 42 43), (0, u "java/lang/Math"), (0, u "min"), (0, u "(II)I"), (9, u "([BI)C"), (34, .methodref 14 89), (0, .nameAndType 90 91), (0, u "canEncode"), (0, u "(I)Z"), (0, .methodref 39 93), (0, .nameAndType 94 43), (0, u "max"), (0, .methodref 14 96), (0, .nameAndType 97 98), (0, u "indexOfChar"), (0, u "([BIII)I"), (2, u "indexOf"), (19, u "$assertionsDisabled"), (0, u "Z"), (98, .class_ 223), (1, u "java/lang/StringLatin1$LinesSpliterator"), (28, u "charAt"), (137, .class_ 391), (0, u "java/lang/StringLatin1$CharsSpliterator")] 3

def k10m0 : Method := { name := "<init>", desc := "()V", sig := { parameters := [], returnType := none }, accessFlags := 0, code := none }
def k10c1 : Code := { maxStack := 2, maxLocals := 2, code := jdk_43_method_2_code, exceptionTable := #[], attributes := #[] }
def k10m1 : Method := { name := "charAt", desc := "([BI)C", sig := { parameters := [(.array .byte), .int], returnType := some .char }, accessFlags := 9, code := some k10c1 }
def k10c2 : Code := { maxStack := 2, maxLocals := 1, code := jdk_43_method_4_code, exceptionTable := #[], attributes := #[] }
def k10m2 : Method := { name := "canEncode", desc := "(I)Z", sig := { parameters := [.int], returnType := some .boolean }, accessFlags := 9, code := some k10c2 }
def k10c3 : Code := { maxStack := 4, maxLocals := 4, code := jdk_43_method_22_code, exceptionTable := #[], attributes := #[] }
def k10m3 : Method := { name := "indexOf", desc := "([BIII)I", sig := { parameters := [(.array .byte), .int, .int, .int], returnType := some .int }, accessFlags := 9, code := some k10c3 }
def k10c4 : Code := { maxStack := 2, maxLocals := 6, code := jdk_43_method_23_code, exceptionTable := #[], attributes := #[] }
def k10m4 : Method := { name := "indexOfChar", desc := "([BIII)I", sig := { parameters := [(.array .byte), .int, .int, .int], returnType := some .int }, accessFlags := 10, code := some k10c4 }
/-- java/lang/StringLatin1 -/
def k10 : Class := { plain "java/lang/StringLatin1" (some 0) with
  accessFlags := 48
  interfaces := #[]
  cf := some (fileOf pool10 14 #[.nestMembers #[390, 221]] #[{ accessFlags := 0, nameIndex := 7, descriptorIndex := 8, attributes := #[] }, { accessFlags := 9, nameIndex := 252, descriptorIndex := 53, attributes := #[] }, { accessFlags := 9, nameIndex := 90, descriptorIndex := 91, attributes := #[] }, { accessFlags := 9, nameIndex := 101, descriptorIndex := 98, attributes := #[] }, { accessFlags := 10, nameIndex := 97, descriptorIndex := 98, attributes := #[] }] 48 4 #[] #[{ accessFlags := 4120, nameIndex := 121, descriptorIndex := 122, attributes := #[] }])
  fields := #[{ name := "$assertionsDisabled", type := .boolean, accessFlags := 4120, slot := 0, constantValue := 0 }]
  methods := #[k10m0, k10m1, k10m2, k10m3, k10m4]
  instanceTypes := #[]
  staticTypes := #[.boolean]
  resolved := Array.replicate 395 none
  statics := none }

def pool11 : Array CpInfo := pool [(1, .class_ 2), (0, u "java/lang/Math"), (1, .class_ 6), (1, u "java/lang/Object"), (0, u "<init>"), (0, u "()V"), (89, .class_ 100), (1, u "java/lang/Math$RandomNumberGeneratorHolder"), (71, u "negativeZeroFloatBits"), (0, u "J"), (2, u "negativeZeroDoubleBits"), (21, u "max"), (2, u "min"), (43, u "$assertionsDisabled"), (0, u "Z"), (88, u "(II)I"), (2, u "twoToTheDoubleScaleDown"), (0, u "D"), (4, u "twoToTheDoubleScaleUp"), (9, u "E"), (3, u "PI"), (2, u "TAU"), (2, u "DEGREES_TO_RADIANS"), (0, u "RADIANS_TO_DEGREES")] 94

def k11m0 : Method := { name := "<init>", desc := "()V", sig := { parameters := [], returnType := none }, accessFlags := 2, code := none }
def k11c1 : Code := { maxStack := 2, maxLocals := 2, code := jdk_29_method_65_code, exceptionTable := #[], attributes := #[] }
def k11m1 : Method := { name := "max", desc := "(II)I", sig := { parameters := [.int, .int], returnType := some .int }, accessFlags := 9, code := some k11c1 }
def k11c2 : Code := { maxStack := 2, maxLocals := 2, code := jdk_29_method_69_code, exceptionTable := #[], attributes := #[] }
def k11m2 : Method := { name := "min", desc := "(II)I", sig := { parameters := [.int, .int], returnType := some .int }, accessFlags := 9, code := some k11c2 }
/-- java/lang/Math -/
def k11 : Class := { plain "java/lang/Math" (some 0) with
  accessFlags := 49
  interfaces := #[]
  cf := some (fileOf pool11 1 #[.nestMembers #[98]] #[{ accessFlags := 2, nameIndex := 7, descriptorIndex := 8, attributes := #[] }, { accessFlags := 9, nameIndex := 198, descriptorIndex := 335, attributes := #[] }, { accessFlags := 9, nameIndex := 201, descriptorIndex := 335, attributes := #[] }] 49 4 #[] #[{ accessFlags := 25, nameIndex := 354, descriptorIndex := 339, attributes := #[] }, { accessFlags := 25, nameIndex := 358, descriptorIndex := 339, attributes := #[] }, { accessFlags := 25, nameIndex := 361, descriptorIndex := 339, attributes := #[] }, { accessFlags := 26, nameIndex := 364, descriptorIndex := 339, attributes := #[] }, { accessFlags := 26, nameIndex := 365, descriptorIndex := 339, attributes := #[] }, { accessFlags := 26, nameIndex := 172, descriptorIndex := 173, attributes := #[] }, { accessFlags := 26, nameIndex := 176, descriptorIndex := 173, attributes := #[] }, { accessFlags := 8, nameIndex := 344, descriptorIndex := 339, attributes := #[] }, { accessFlags := 8, nameIndex := 338, descriptorIndex := 339, attributes := #[] }, { accessFlags := 4120, nameIndex := 245, descriptorIndex := 246, attributes := #[] }])
  fields := #[{ name := "E", type := .double, accessFlags := 25, slot := 0, constantValue := 0 }, { name := "PI", type := .double, accessFlags := 25, slot := 1, constantValue := 0 }, { name := "TAU", type := .double, accessFlags := 25, slot := 2, constantValue := 0 }, { name := "DEGREES_TO_RADIANS", type := .double, accessFlags := 26, slot := 3, constantValue := 0 }, { name := "RADIANS_TO_DEGREES", type := .double, accessFlags := 26, slot := 4, constantValue := 0 }, { name := "negativeZeroFloatBits", type := .long, accessFlags := 26, slot := 5, constantValue := 0 }, { name := "negativeZeroDoubleBits", type := .long, accessFlags := 26, slot := 6, constantValue := 0 }, { name := "twoToTheDoubleScaleUp", type := .double, accessFlags := 8, slot := 7, constantValue := 0 }, { name := "twoToTheDoubleScaleDown", type := .double, accessFlags := 8, slot := 8, constantValue := 0 }, { name := "$assertionsDisabled", type := .boolean, accessFlags := 4120, slot := 9, constantValue := 0 }]
  methods := #[k11m0, k11m1, k11m2]
  instanceTypes := #[]
  staticTypes := #[.double, .double, .double, .double, .double, .long, .long, .double, .double, .boolean]
  resolved := Array.replicate 460 none
  statics := none }

def pool12 : Array CpInfo := pool [(2, .class_ 4), (1, u "java/lang/Object"), (0, u "<init>"), (0, u "()V"), (17, .class_ 26), (1, u "jdk/internal/util/Preconditions"), (6, u "checkIndex"), (21, .class_ 56), (0, u "jdk/internal/util/Preconditions$4"), (57, .class_ 115), (0, u "jdk/internal/util/Preconditions$1"), (7, u "SIOOBE_FORMATTER"), (0, u "Ljava/util/function/BiFunction;"), (0, .class_ 126), (0, u "jdk/internal/util/Preconditions$2"), (3, u "AIOOBE_FORMATTER"), (0, .class_ 132), (0, u "jdk/internal/util/Preconditions$3"), (3, u "IOOBE_FORMATTER"), (41, u "(IILjava/util/function/BiFunction;)I")] 15

def k12m0 : Method := { name := "<init>", desc := "()V", sig := { parameters := [], returnType := none }, accessFlags := 1, code := none }
def k12c1 : Code := { maxStack := 3, maxLocals := 3, code := jdk_41_method_11_code, exceptionTable := #[], attributes := #[] }
def k12m1 : Method := { name := "checkIndex", desc := "(IILjava/util/function/BiFunction;)I", sig := { parameters := [.int, .int, (.object "java/util/function/BiFunction")], returnType := some .int }, accessFlags := 9, code := some k12c1 }
/-- jdk/internal/util/Preconditions -/
def k12 : Class := { plain "jdk/internal/util/Preconditions" (some 0) with
  accessFlags := 33
  interfaces := #[]
  cf := some (fileOf pool12 24 #[.nestMembers #[55, 131, 125, 114]] #[{ accessFlags := 1, nameIndex := 5, descriptorIndex := 6, attributes := #[] }, { accessFlags := 9, nameIndex := 33, descriptorIndex := 178, attributes := #[] }] 33 2 #[] #[{ accessFlags := 25, nameIndex := 123, descriptorIndex := 124, attributes := #[] }, { accessFlags := 25, nameIndex := 130, descriptorIndex := 124, attributes := #[] }, { accessFlags := 25, nameIndex := 136, descriptorIndex := 124, attributes := #[] }])
  fields := #[{ name := "SIOOBE_FORMATTER", type := (.object "java/util/function/BiFunction"), accessFlags := 25, slot := 0, constantValue := 0 }, { name := "AIOOBE_FORMATTER", type := (.object "java/util/function/BiFunction"), accessFlags := 25, slot := 1, constantValue := 0 }, { name := "IOOBE_FORMATTER", type := (.object "java/util/function/BiFunction"), accessFlags := 25, slot := 2, constantValue := 0 }]
  methods := #[k12m0, k12m1]
  instanceTypes := #[]
  staticTypes := #[(.object "java/util/function/BiFunction"), (.object "java/util/function/BiFunction"), (.object "java/util/function/BiFunction")]
  resolved := Array.replicate 194 none
  statics := some 1 }

def pool13 : Array CpInfo := pool [(9, u "<init>"), (6, .class_ 18), (1, u "java/lang/Object"), (0, u "()V"), (1, .class_ 23), (1, u "jdk/internal/util/ArraysSupport"), (0, u "LOG2_ARRAY_LONG_INDEX_SCALE"), (0, u "I"), (2, u "U"), (0, u "Ljdk/internal/misc/Unsafe;"), (8, u "BIG_ENDIAN"), (0, u "Z"), (8, u "LOG2_BYTE_BIT_SIZE"), (4, u "LOG2_ARRAY_INT_INDEX_SCALE"), (54, u "JLA"), (0, u "Ljdk/internal/access/JavaLangAccess;"), (11, u "LOG2_ARRAY_BOOLEAN_INDEX_SCALE"), (9, u "LOG2_ARRAY_BYTE_INDEX_SCALE"), (5, u "LOG2_ARRAY_CHAR_INDEX_SCALE"), (5, u "LOG2_ARRAY_SHORT_INDEX_SCALE"), (18, u "LOG2_ARRAY_FLOAT_INDEX_SCALE"), (24, u "LOG2_ARRAY_DOUBLE_INDEX_SCALE"), (89, u "T_BOOLEAN"), (2, u "T_CHAR"), (1, u "T_FLOAT"), (1, u "T_DOUBLE"), (1, u "T_BYTE"), (1, u "T_SHORT"), (1, u "T_INT"), (1, u "T_LONG"), (1, u "SOFT_MAX_ARRAY_LENGTH")] 83

def k13m0 : Method := { name := "<init>", desc := "()V", sig := { parameters := [], returnType := none }, accessFlags := 2, code := none }
/-- jdk/internal/util/ArraysSupport -/
def k13 : Class := { plain "jdk/internal/util/ArraysSupport" (some 0) with
  accessFlags := 33
  interfaces := #[]
  cf := some (fileOf pool13 21 #[] #[{ accessFlags := 2, nameIndex := 9, descriptorIndex := 19, attributes := #[] }] 33 16 #[] #[{ accessFlags := 24, nameIndex := 28, descriptorIndex := 29, attributes := #[] }, { accessFlags := 26, nameIndex := 38, descriptorIndex := 39, attributes := #[] }, { accessFlags := 25, nameIndex := 121, descriptorIndex := 25, attributes := #[] }, { accessFlags := 25, nameIndex := 131, descriptorIndex := 25, attributes := #[] }, { accessFlags := 25, nameIndex := 137, descriptorIndex := 25, attributes := #[] }, { accessFlags := 25, nameIndex := 143, descriptorIndex := 25, attributes := #[] }, { accessFlags := 25, nameIndex := 53, descriptorIndex := 25, attributes := #[] }, { accessFlags := 25, nameIndex := 24, descriptorIndex := 25, attributes := #[] }, { accessFlags := 25, nameIndex := 162, descriptorIndex := 25, attributes := #[] }, { accessFlags := 25, nameIndex := 187, descriptorIndex := 25, attributes := #[] }, { accessFlags := 26, nameIndex := 48, descriptorIndex := 25, attributes := #[] }, { accessFlags := 25, nameIndex := 277, descriptorIndex := 25, attributes := #[] }, { accessFlags := 25, nameIndex := 280, descriptorIndex := 25, attributes := #[] }, { accessFlags := 25, nameIndex := 282, descriptorIndex := 25, attributes := #[] }, { accessFlags := 25, nameIndex := 284, descriptorIndex := 25, attributes := #[] }, { accessFlags := 25, nameIndex := 286, descriptorIndex := 25, attributes := #[] }, { accessFlags := 25, nameIndex := 288, descriptorIndex := 25, attributes := #[] }, { accessFlags := 25, nameIndex := 290, descriptorIndex := 25, attributes := #[] }, { accessFlags := 25, nameIndex := 292, descriptorIndex := 25, attributes := #[] }, { accessFlags := 26, nameIndex := 108, descriptorIndex := 109, attributes := #[] }, { accessFlags := 25, nameIndex := 294, descriptorIndex := 25, attributes := #[] }])
  fields := #[{ name := "U", type := (.object "jdk/internal/misc/Unsafe"), accessFlags := 24, slot := 0, constantValue := 0 }, { name := "BIG_ENDIAN", type := .boolean, accessFlags := 26, slot := 1, constantValue := 0 }, { name := "LOG2_ARRAY_BOOLEAN_INDEX_SCALE", type := .int, accessFlags := 25, slot := 2, constantValue := 0 }, { name := "LOG2_ARRAY_BYTE_INDEX_SCALE", type := .int, accessFlags := 25, slot := 3, constantValue := 0 }, { name := "LOG2_ARRAY_CHAR_INDEX_SCALE", type := .int, accessFlags := 25, slot := 4, constantValue := 0 }, { name := "LOG2_ARRAY_SHORT_INDEX_SCALE", type := .int, accessFlags := 25, slot := 5, constantValue := 0 }, { name := "LOG2_ARRAY_INT_INDEX_SCALE", type := .int, accessFlags := 25, slot := 6, constantValue := 0 }, { name := "LOG2_ARRAY_LONG_INDEX_SCALE", type := .int, accessFlags := 25, slot := 7, constantValue := 0 }, { name := "LOG2_ARRAY_FLOAT_INDEX_SCALE", type := .int, accessFlags := 25, slot := 8, constantValue := 0 }, { name := "LOG2_ARRAY_DOUBLE_INDEX_SCALE", type := .int, accessFlags := 25, slot := 9, constantValue := 0 }, { name := "LOG2_BYTE_BIT_SIZE", type := .int, accessFlags := 26, slot := 10, constantValue := 0 }, { name := "T_BOOLEAN", type := .int, accessFlags := 25, slot := 11, constantValue := 0 }, { name := "T_CHAR", type := .int, accessFlags := 25, slot := 12, constantValue := 0 }, { name := "T_FLOAT", type := .int, accessFlags := 25, slot := 13, constantValue := 0 }, { name := "T_DOUBLE", type := .int, accessFlags := 25, slot := 14, constantValue := 0 }, { name := "T_BYTE", type := .int, accessFlags := 25, slot := 15, constantValue := 0 }, { name := "T_SHORT", type := .int, accessFlags := 25, slot := 16, constantValue := 0 }, { name := "T_INT", type := .int, accessFlags := 25, slot := 17, constantValue := 0 }, { name := "T_LONG", type := .int, accessFlags := 25, slot := 18, constantValue := 0 }, { name := "JLA", type := (.object "jdk/internal/access/JavaLangAccess"), accessFlags := 26, slot := 19, constantValue := 0 }, { name := "SOFT_MAX_ARRAY_LENGTH", type := .int, accessFlags := 25, slot := 20, constantValue := 0 }]
  methods := #[k13m0]
  instanceTypes := #[]
  staticTypes := #[(.object "jdk/internal/misc/Unsafe"), .boolean, .int, .int, .int, .int, .int, .int, .int, .int, .int, .int, .int, .int, .int, .int, .int, .int, .int, (.object "jdk/internal/access/JavaLangAccess"), .int]
  resolved := Array.replicate 378 none
  statics := none }

def pool14 : Array CpInfo := pool [(1, u "java/lang/Cloneable"), (0, .class_ 1), (0, u "java/lang/Object"), (0, .class_ 3)] 3

/-- java/lang/Cloneable -/
def k14 : Class := { plain "java/lang/Cloneable" (some 0) with
  accessFlags := 1537
  interfaces := #[]
  cf := some (fileOf pool14 2 #[] #[] 1537 4 #[] #[])
  fields := #[]
  methods := #[]
  instanceTypes := #[]
  staticTypes := #[]
  resolved := Array.replicate 8 none
  statics := none }

/-- the primitive byte -/
def k15 : Class := { plain "byte" none with kind := .primitive 'B', accessFlags := 0x411 }
/-- [B -/
def k16 : Class := { plain "[B" (some 0) with kind := .array 15 .byte, interfaces := #[14, 2], accessFlags := 1041 }

/-- the primitive char -/
def k17 : Class := { plain "char" none with kind := .primitive 'C', accessFlags := 0x411 }
/-- [C -/
def k18 : Class := { plain "[C" (some 0) with kind := .array 17 .char, interfaces := #[14, 2], accessFlags := 1041 }

/-- the primitive int -/
def k19 : Class := { plain "int" none with kind := .primitive 'I', accessFlags := 0x411 }
/-- [I -/
def k20 : Class := { plain "[I" (some 0) with kind := .array 19 .int, interfaces := #[14, 2], accessFlags := 1041 }

def heap : Heap := #[{ cls := 7, slots := #[.long 0, .int 1, .null, .int 0, .null, .int 0, .int 0], vm := .statics 7 },
  { cls := 12, slots := #[.null, .null, .null], vm := .statics 12 }]
def classes : Array Class := #[k0, k1, k2, k3, k4, k5, k6, k7, k8, k9, k10, k11, k12, k13, k14, k15, k16, k17, k18, k19, k20]
def interned : List (Array UInt16 × Addr) := []
def slotsUsed : Nat := 10
def theMethod : MethodId := ⟨1, 1⟩
def args0 : Array Value := #[.int 5, .int 5, .int 5, .int 5, .int 5, .int 5]
def aboutOver (below : List Frame) : State where
  vm := { classes := classes, interned := interned.toArray }
  heap := heap
  slotsUsed := slotsUsed
  threads := #[{ frames := .invoking theMethod args0 :: below }]
def below0 : List Frame := [.native { method := ⟨0, 0⟩, args := #[] }]
def about1 : State := aboutOver below0
def p0 : Program := .bare "" "" ""
def e0 : Env := launch0.env 0 0 0
theorem w_frames : about1.frames = Frame.invoking theMethod args0 :: below0 := rfl
set_option maxRecDepth 65536 in
theorem w_args : argsFit about1.vm theMethod args0 = true := by decide +kernel
set_option maxRecDepth 65536 in
theorem w_heap : heapFits about1 = true := by decide +kernel
set_option maxRecDepth 65536 in
theorem w_runnable : about1.curStatus? = some .runnable := by decide +kernel
set_option maxRecDepth 65536 in
theorem w_alone : about1.alone = true := by decide +kernel
set_option maxRecDepth 65536 in
theorem w_named : about1.methodNamed? x = some theMethod := by decide +kernel
set_option maxRecDepth 65536 in
theorem w_hears : about1.hears theMethod below0 = true := by decide +kernel
set_option maxRecDepth 65536 in
theorem w_ripe : about1.ripe theMethod args0 below0 = true := by decide +kernel
theorem w_running : about1.status = .running := rfl
set_option maxRecDepth 65536 in
theorem w_room : about1.hasRoom e0.platform room_1 = true :=
  launch0.hasRoom_least _ room_1 (by decide +kernel) (by decide +kernel) (by decide +kernel) (by decide +kernel) (by decide +kernel) (by decide +kernel)
theorem allAtoms_all (ts : List Jvm.Cond) (a : Array Jvm.Value) (st : Jvm.State) : (allAtoms ts).before a st = ts.all (fun c => c.before a st) := by
  induction ts with
  | nil => rfl
  | cons c t ih =>
    show (Jvm.Cond.and c (allAtoms t)).before a st = _
    rw [Jvm.Cond.before_and, ih, List.all_cons]
def words1 : List Jvm.Cond := Jvm.Cond.code x code maxLocals ret :: tables_1
/-- a 'code' word, met by the world's own term for the bytes: nothing is compared byte by byte -/
theorem code_word {y : MethodName} {bytes : ByteArray} {mx : Nat} {rt : Option FieldType} {a : Array Value} {s : State} {m : MethodId} {meth : Method} {c : Code} (h1 : s.methodNamed? y = some m) (h2 : s.vm.method? m = some meth) (h3 : meth.code = some c) (h4 : c.code = bytes)
    (h5 : (c.maxLocals == mx && c.exceptionTable.isEmpty && decide (c.maxStack ≤ mostOperands) && decide (meth.sig.returnType = rt) && !meth.locks && decide (parseMethodDescriptor y.desc = some meth.sig)) = true) : (Jvm.Cond.code y bytes mx rt).before a s = true := by
  simp only [Bool.and_eq_true, beq_iff_eq, Bool.not_eq_true', decide_eq_true_eq] at h5
  obtain ⟨⟨⟨⟨⟨g1, g2⟩, g3⟩, g4⟩, g5⟩, g6⟩ := h5
  simp [Cond.before, Cond.holds, Cond.value, h1, h2, h3, h4, g1, g2, g3, g4, g5, g6]
def isCode : Jvm.Cond → Bool
  | .code _ _ _ _ => true
  | _ => false
theorem all_split {L : List Jvm.Cond} {P : Jvm.Cond → Bool} (h1 : L.all (fun c => isCode c || P c) = true) (h2 : ∀ c ∈ L.filter isCode, P c = true) : L.all P = true := by
  refine List.all_eq_true.mpr fun c hc => ?_
  have h := List.all_eq_true.mp h1 c hc
  rcases Bool.eq_false_or_eq_true (isCode c) with hi | hi
  · exact h2 c (List.mem_filter.mpr ⟨hc, hi⟩)
  · simpa [hi] using h
set_option maxRecDepth 65536 in
theorem w_c0 : (Jvm.Cond.code x code maxLocals ret).before args0 about1 = true := code_word (m := ⟨1, 1⟩) (meth := k1m1) (c := k1c1) (by decide +kernel) rfl rfl rfl (by decide +kernel)
set_option maxRecDepth 65536 in
theorem w_c1 : (Jvm.Cond.code ({ cls := "java/lang/String", name := "<init>", desc := "([C)V" } : Jvm.MethodName) jdk_42_method_3_code (2 : Nat) (Option.none : Option Jvm.ClassFile.FieldType)).before args0 about1 = true := code_word (m := ⟨7, 1⟩) (meth := k7m1) (c := k7c1) (by decide +kernel) rfl rfl rfl (by decide +kernel)
set_option maxRecDepth 65536 in
theorem w_c2 : (Jvm.Cond.code ({ cls := "java/lang/String", name := "<init>", desc := "([CIILjava/lang/Void;)V" } : Jvm.MethodName) jdk_42_method_149_code (6 : Nat) (Option.none : Option Jvm.ClassFile.FieldType)).before args0 about1 = true := code_word (m := ⟨7, 5⟩) (meth := k7m5) (c := k7c5) (by decide +kernel) rfl rfl rfl (by decide +kernel)
set_option maxRecDepth 65536 in
theorem w_c3 : (Jvm.Cond.code ({ cls := "java/lang/Object", name := "<init>", desc := "()V" } : Jvm.MethodName) object_method_1_code (1 : Nat) (Option.none : Option Jvm.ClassFile.FieldType)).before args0 about1 = true := code_word (m := ⟨0, 0⟩) (meth := k0m0) (c := k0c0) (by decide +kernel) rfl rfl rfl (by decide +kernel)
set_option maxRecDepth 65536 in
theorem w_c4 : (Jvm.Cond.code ({ cls := "java/lang/StringUTF16", name := "compress", desc := "([CII)[B" } : Jvm.MethodName) jdk_52_method_16_code (6 : Nat) (Option.some (Jvm.ClassFile.FieldType.array Jvm.ClassFile.FieldType.byte))).before args0 about1 = true := code_word (m := ⟨8, 2⟩) (meth := k8m2) (c := k8c2) (by decide +kernel) rfl rfl rfl (by decide +kernel)
set_option maxRecDepth 65536 in
theorem w_c5 : (Jvm.Cond.code ({ cls := "java/lang/StringUTF16", name := "compress", desc := "([CI[BII)I" } : Jvm.MethodName) jdk_52_method_21_code (7 : Nat) (Option.some Jvm.ClassFile.FieldType.int)).before args0 about1 = true := code_word (m := ⟨8, 3⟩) (meth := k8m3) (c := k8c3) (by decide +kernel) rfl rfl rfl (by decide +kernel)
set_option maxRecDepth 65536 in
theorem w_c6 : (Jvm.Cond.code ({ cls := "java/lang/StringUTF16", name := "coderFromArrayLen", desc := "([BI)B" } : Jvm.MethodName) jdk_52_method_15_code (2 : Nat) (Option.some Jvm.ClassFile.FieldType.byte)).before args0 about1 = true := code_word (m := ⟨8, 1⟩) (meth := k8m1) (c := k8c1) (by decide +kernel) rfl rfl rfl (by decide +kernel)
set_option maxRecDepth 65536 in
theorem w_c7 : (Jvm.Cond.code ({ cls := "com/example/resultwire/resultwire/er7/Pieces", name := "<init>", desc := "(Ljava/lang/String;III)V" } : Jvm.MethodName) prog_141_method_1_code (5 : Nat) (Option.none : Option Jvm.ClassFile.FieldType)).before args0 about1 = true := code_word (m := ⟨9, 0⟩) (meth := k9m0) (c := k9c0) (by decide +kernel) rfl rfl rfl (by decide +kernel)
set_option maxRecDepth 65536 in
theorem w_c8 : (Jvm.Cond.code ({ cls := "com/example/resultwire/resultwire/er7/Pieces", name := "hasNext", desc := "()Z" } : Jvm.MethodName) prog_141_method_9_code (1 : Nat) (Option.some Jvm.ClassFile.FieldType.boolean)).before args0 about1 = true := code_word (m := ⟨9, 4⟩) (meth := k9m4) (c := k9c4) (by decide +kernel) rfl rfl rfl (by decide +kernel)
set_option maxRecDepth 65536 in
theorem w_c9 : (Jvm.Cond.code ({ cls := "com/example/resultwire/resultwire/er7/Pieces", name := "advance", desc := "()V" } : Jvm.MethodName) prog_141_method_8_code (1 : Nat) (Option.none : Option Jvm.ClassFile.FieldType)).before args0 about1 = true := code_word (m := ⟨9, 3⟩) (meth := k9m3) (c := k9c3) (by decide +kernel) rfl rfl rfl (by decide +kernel)
set_option maxRecDepth 65536 in
theorem w_c10 : (Jvm.Cond.code ({ cls := "com/example/resultwire/resultwire/er7/Pieces", name := "endOf", desc := "(Ljava/lang/String;III)I" } : Jvm.MethodName) prog_141_method_3_code (6 : Nat) (Option.some Jvm.ClassFile.FieldType.int)).before args0 about1 = true := code_word (m := ⟨9, 1⟩) (meth := k9m1) (c := k9c1) (by decide +kernel) rfl rfl rfl (by decide +kernel)
set_option maxRecDepth 65536 in
theorem w_c11 : (Jvm.Cond.code ({ cls := "java/lang/String", name := "length", desc := "()I" } : Jvm.MethodName) jdk_42_method_54_code (1 : Nat) (Option.some Jvm.ClassFile.FieldType.int)).before args0 about1 = true := code_word (m := ⟨7, 2⟩) (meth := k7m2) (c := k7c2) (by decide +kernel) rfl rfl rfl (by decide +kernel)
set_option maxRecDepth 65536 in
theorem w_c12 : (Jvm.Cond.code ({ cls := "java/lang/String", name := "coder", desc := "()B" } : Jvm.MethodName) jdk_42_method_152_code (1 : Nat) (Option.some Jvm.ClassFile.FieldType.byte)).before args0 about1 = true := code_word (m := ⟨7, 6⟩) (meth := k7m6) (c := k7c6) (by decide +kernel) rfl rfl rfl (by decide +kernel)
set_option maxRecDepth 65536 in
theorem w_c13 : (Jvm.Cond.code ({ cls := "com/example/resultwire/resultwire/er7/PiecesIsSplitPinLaw", name := "hit", desc := "(CIIII)Z" } : Jvm.MethodName) method_3_code (5 : Nat) (Option.some Jvm.ClassFile.FieldType.boolean)).before args0 about1 = true := code_word (m := ⟨1, 2⟩) (meth := k1m2) (c := k1c2) (by decide +kernel) rfl rfl rfl (by decide +kernel)
set_option maxRecDepth 65536 in
theorem w_c14 : (Jvm.Cond.code ({ cls := "com/example/resultwire/resultwire/er7/Pieces", name := "isSplit", desc := "()Z" } : Jvm.MethodName) prog_141_method_4_code (1 : Nat) (Option.some Jvm.ClassFile.FieldType.boolean)).before args0 about1 = true := code_word (m := ⟨9, 2⟩) (meth := k9m2) (c := k9c2) (by decide +kernel) rfl rfl rfl (by decide +kernel)
set_option maxRecDepth 65536 in
theorem w_c15 : (Jvm.Cond.code ({ cls := "java/lang/String", name := "indexOf", desc := "(II)I" } : Jvm.MethodName) jdk_42_method_80_code (3 : Nat) (Option.some Jvm.ClassFile.FieldType.int)).before args0 about1 = true := code_word (m := ⟨7, 4⟩) (meth := k7m4) (c := k7c4) (by decide +kernel) rfl rfl rfl (by decide +kernel)
set_option maxRecDepth 65536 in
theorem w_c16 : (Jvm.Cond.code ({ cls := "java/lang/String", name := "isLatin1", desc := "()Z" } : Jvm.MethodName) jdk_42_method_154_code (1 : Nat) (Option.some Jvm.ClassFile.FieldType.boolean)).before args0 about1 = true := code_word (m := ⟨7, 7⟩) (meth := k7m7) (c := k7c7) (by decide +kernel) rfl rfl rfl (by decide +kernel)
set_option maxRecDepth 65536 in
theorem w_c17 : (Jvm.Cond.code ({ cls := "java/lang/StringLatin1", name := "indexOf", desc := "([BIII)I" } : Jvm.MethodName) jdk_43_method_22_code (4 : Nat) (Option.some Jvm.ClassFile.FieldType.int)).before args0 about1 = true := code_word (m := ⟨10, 3⟩) (meth := k10m3) (c := k10c3) (by decide +kernel) rfl rfl rfl (by decide +kernel)
set_option maxRecDepth 65536 in
theorem w_c18 : (Jvm.Cond.code ({ cls := "java/lang/StringLatin1", name := "canEncode", desc := "(I)Z" } : Jvm.MethodName) jdk_43_method_4_code (1 : Nat) (Option.some Jvm.ClassFile.FieldType.boolean)).before args0 about1 = true := code_word (m := ⟨10, 2⟩) (meth := k10m2) (c := k10c2) (by decide +kernel) rfl rfl rfl (by decide +kernel)
set_option maxRecDepth 65536 in
theorem w_c19 : (Jvm.Cond.code ({ cls := "java/lang/Math", name := "max", desc := "(II)I" } : Jvm.MethodName) jdk_29_method_65_code (2 : Nat) (Option.some Jvm.ClassFile.FieldType.int)).before args0 about1 = true := code_word (m := ⟨11, 1⟩) (meth := k11m1) (c := k11c1) (by decide +kernel) rfl rfl rfl (by decide +kernel)
set_option maxRecDepth 65536 in
theorem w_c20 : (Jvm.Cond.code ({ cls := "java/lang/Math", name := "min", desc := "(II)I" } : Jvm.MethodName) jdk_29_method_69_code (2 : Nat) (Option.some Jvm.ClassFile.FieldType.int)).before args0 about1 = true := code_word (m := ⟨11, 2⟩) (meth := k11m2) (c := k11c2) (by decide +kernel) rfl rfl rfl (by decide +kernel)
set_option maxRecDepth 65536 in
theorem w_c21 : (Jvm.Cond.code ({ cls := "java/lang/StringLatin1", name := "indexOfChar", desc := "([BIII)I" } : Jvm.MethodName) jdk_43_method_23_code (6 : Nat) (Option.some Jvm.ClassFile.FieldType.int)).before args0 about1 = true := code_word (m := ⟨10, 4⟩) (meth := k10m4) (c := k10c4) (by decide +kernel) rfl rfl rfl (by decide +kernel)
set_option maxRecDepth 65536 in
theorem w_c22 : (Jvm.Cond.code ({ cls := "java/lang/String", name := "charAt", desc := "(I)C" } : Jvm.MethodName) jdk_42_method_56_code (2 : Nat) (Option.some Jvm.ClassFile.FieldType.char)).before args0 about1 = true := code_word (m := ⟨7, 3⟩) (meth := k7m3) (c := k7c3) (by decide +kernel) rfl rfl rfl (by decide +kernel)
set_option maxRecDepth 65536 in
theorem w_c23 : (Jvm.Cond.code ({ cls := "java/lang/StringLatin1", name := "charAt", desc := "([BI)C" } : Jvm.MethodName) jdk_43_method_2_code (2 : Nat) (Option.some Jvm.ClassFile.FieldType.char)).before args0 about1 = true := code_word (m := ⟨10, 1⟩) (meth := k10m1) (c := k10c1) (by decide +kernel) rfl rfl rfl (by decide +kernel)
set_option maxRecDepth 65536 in
theorem w_c24 : (Jvm.Cond.code ({ cls := "java/lang/String", name := "checkIndex", desc := "(II)V" } : Jvm.MethodName) jdk_42_method_155_code (2 : Nat) (Option.none : Option Jvm.ClassFile.FieldType)).before args0 about1 = true := code_word (m := ⟨7, 8⟩) (meth := k7m8) (c := k7c8) (by decide +kernel) rfl rfl rfl (by decide +kernel)
set_option maxRecDepth 65536 in
theorem w_c25 : (Jvm.Cond.code ({ cls := "jdk/internal/util/Preconditions", name := "checkIndex", desc := "(IILjava/util/function/BiFunction;)I" } : Jvm.MethodName) jdk_41_method_11_code (3 : Nat) (Option.some Jvm.ClassFile.FieldType.int)).before args0 about1 = true := code_word (m := ⟨12, 1⟩) (meth := k12m1) (c := k12c1) (by decide +kernel) rfl rfl rfl (by decide +kernel)
def codes1 : List Jvm.Cond := [Jvm.Cond.code x code maxLocals ret, Jvm.Cond.code ({ cls := "java/lang/String", name := "<init>", desc := "([C)V" } : Jvm.MethodName) jdk_42_method_3_code (2 : Nat) (Option.none : Option Jvm.ClassFile.FieldType), Jvm.Cond.code ({ cls := "java/lang/String", name := "<init>", desc := "([CIILjava/lang/Void;)V" } : Jvm.MethodName) jdk_42_method_149_code (6 : Nat) (Option.none : Option Jvm.ClassFile.FieldType), Jvm.Cond.code ({ cls := "java/lang/Object", name := "<init>", desc := "()V" } : Jvm.MethodName) object_method_1_code (1 : Nat) (Option.none : Option Jvm.ClassFile.FieldType), Jvm.Cond.code ({ cls := "java/lang/StringUTF16", name := "compress", desc := "([CII)[B" } : Jvm.MethodName) jdk_52_method_16_code (6 : Nat) (Option.some (Jvm.ClassFile.FieldType.array Jvm.ClassFile.FieldType.byte)), Jvm.Cond.code ({ cls := "java/lang/StringUTF16", name := "compress", desc := "([CI[BII)I" } : Jvm.MethodName) jdk_52_method_21_code (7 : Nat) (Option.some Jvm.ClassFile.FieldType.int), Jvm.Cond.code ({ cls := "java/lang/StringUTF16", name := "coderFromArrayLen", desc := "([BI)B" } : Jvm.MethodName) jdk_52_method_15_code (2 : Nat) (Option.some Jvm.ClassFile.FieldType.byte), Jvm.Cond.code ({ cls := "com/example/resultwire/resultwire/er7/Pieces", name := "<init>", desc := "(Ljava/lang/String;III)V" } : Jvm.MethodName) prog_141_method_1_code (5 : Nat) (Option.none : Option Jvm.ClassFile.FieldType), Jvm.Cond.code ({ cls := "com/example/resultwire/resultwire/er7/Pieces", name := "hasNext", desc := "()Z" } : Jvm.MethodName) prog_141_method_9_code (1 : Nat) (Option.some Jvm.ClassFile.FieldType.boolean), Jvm.Cond.code ({ cls := "com/example/resultwire/resultwire/er7/Pieces", name := "advance", desc := "()V" } : Jvm.MethodName) prog_141_method_8_code (1 : Nat) (Option.none : Option Jvm.ClassFile.FieldType), Jvm.Cond.code ({ cls := "com/example/resultwire/resultwire/er7/Pieces", name := "endOf", desc := "(Ljava/lang/String;III)I" } : Jvm.MethodName) prog_141_method_3_code (6 : Nat) (Option.some Jvm.ClassFile.FieldType.int), Jvm.Cond.code ({ cls := "java/lang/String", name := "length", desc := "()I" } : Jvm.MethodName) jdk_42_method_54_code (1 : Nat) (Option.some Jvm.ClassFile.FieldType.int), Jvm.Cond.code ({ cls := "java/lang/String", name := "coder", desc := "()B" } : Jvm.MethodName) jdk_42_method_152_code (1 : Nat) (Option.some Jvm.ClassFile.FieldType.byte), Jvm.Cond.code ({ cls := "com/example/resultwire/resultwire/er7/PiecesIsSplitPinLaw", name := "hit", desc := "(CIIII)Z" } : Jvm.MethodName) method_3_code (5 : Nat) (Option.some Jvm.ClassFile.FieldType.boolean), Jvm.Cond.code ({ cls := "com/example/resultwire/resultwire/er7/Pieces", name := "isSplit", desc := "()Z" } : Jvm.MethodName) prog_141_method_4_code (1 : Nat) (Option.some Jvm.ClassFile.FieldType.boolean), Jvm.Cond.code ({ cls := "java/lang/String", name := "indexOf", desc := "(II)I" } : Jvm.MethodName) jdk_42_method_80_code (3 : Nat) (Option.some Jvm.ClassFile.FieldType.int), Jvm.Cond.code ({ cls := "java/lang/String", name := "isLatin1", desc := "()Z" } : Jvm.MethodName) jdk_42_method_154_code (1 : Nat) (Option.some Jvm.ClassFile.FieldType.boolean), Jvm.Cond.code ({ cls := "java/lang/StringLatin1", name := "indexOf", desc := "([BIII)I" } : Jvm.MethodName) jdk_43_method_22_code (4 : Nat) (Option.some Jvm.ClassFile.FieldType.int), Jvm.Cond.code ({ cls := "java/lang/StringLatin1", name := "canEncode", desc := "(I)Z" } : Jvm.MethodName) jdk_43_method_4_code (1 : Nat) (Option.some Jvm.ClassFile.FieldType.boolean), Jvm.Cond.code ({ cls := "java/lang/Math", name := "max", desc := "(II)I" } : Jvm.MethodName) jdk_29_method_65_code (2 : Nat) (Option.some Jvm.ClassFile.FieldType.int), Jvm.Cond.code ({ cls := "java/lang/Math", name := "min", desc := "(II)I" } : Jvm.MethodName) jdk_29_method_69_code (2 : Nat) (Option.some Jvm.ClassFile.FieldType.int), Jvm.Cond.code ({ cls := "java/lang/StringLatin1", name := "indexOfChar", desc := "([BIII)I" } : Jvm.MethodName) jdk_43_method_23_code (6 : Nat) (Option.some Jvm.ClassFile.FieldType.int), Jvm.Cond.code ({ cls := "java/lang/String", name := "charAt", desc := "(I)C" } : Jvm.MethodName) jdk_42_method_56_code (2 : Nat) (Option.some Jvm.ClassFile.FieldType.char), Jvm.Cond.code ({ cls := "java/lang/StringLatin1", name := "charAt", desc := "([BI)C" } : Jvm.MethodName) jdk_43_method_2_code (2 : Nat) (Option.some Jvm.ClassFile.FieldType.char), Jvm.Cond.code ({ cls := "java/lang/String", name := "checkIndex", desc := "(II)V" } : Jvm.MethodName) jdk_42_method_155_code (2 : Nat) (Option.none : Option Jvm.ClassFile.FieldType), Jvm.Cond.code ({ cls := "jdk/internal/util/Preconditions", name := "checkIndex", desc := "(IILjava/util/function/BiFunction;)I" } : Jvm.MethodName) jdk_41_method_11_code (3 : Nat) (Option.some Jvm.ClassFile.FieldType.int)]
set_option maxRecDepth 65536 in
theorem codes_eq : words1.filter isCode = codes1 := rfl
theorem w_codes : ∀ c ∈ words1.filter isCode, c.before args0 about1 = true := by
  rw [codes_eq]
  intro c hc
  simp only [codes1, List.mem_cons, List.not_mem_nil, or_false] at hc
  rcases hc with rfl | rfl | rfl | rfl | rfl | rfl | rfl | rfl | rfl | rfl | rfl | rfl | rfl | rfl | rfl | rfl | rfl | rfl | rfl | rfl | rfl | rfl | rfl | rfl | rfl | rfl
  · exact w_c0
  · exact w_c1
  · exact w_c2
  · exact w_c3
  · exact w_c4
  · exact w_c5
  · exact w_c6
  · exact w_c7
  · exact w_c8
  · exact w_c9
  · exact w_c10
  · exact w_c11
  · exact w_c12
  · exact w_c13
  · exact w_c14
  · exact w_c15
  · exact w_c16
  · exact w_c17
  · exact w_c18
  · exact w_c19
  · exact w_c20
  · exact w_c21
  · exact w_c22
  · exact w_c23
  · exact w_c24
  · exact w_c25
set_option maxRecDepth 65536 in
theorem w_t1 : (words1.take 24).all (fun c => isCode c || c.before args0 about1) = true := by decide +kernel
set_option maxRecDepth 65536 in
theorem w_t2 : ((words1.drop 24).take 24).all (fun c => isCode c || c.before args0 about1) = true := by decide +kernel
set_option maxRecDepth 65536 in
theorem w_t3 : (((words1.drop 24).drop 24).take 24).all (fun c => isCode c || c.before args0 about1) = true := by decide +kernel
set_option maxRecDepth 65536 in
theorem w_t4 : ((((words1.drop 24).drop 24).drop 24).take 24).all (fun c => isCode c || c.before args0 about1) = true := by decide +kernel
set_option maxRecDepth 65536 in
theorem w_t5 : (((((words1.drop 24).drop 24).drop 24).drop 24).take 24).all (fun c => isCode c || c.before args0 about1) = true := by decide +kernel
set_option maxRecDepth 65536 in
theorem w_t6 : (((((words1.drop 24).drop 24).drop 24).drop 24).drop 24).all (fun c => isCode c || c.before args0 about1) = true := by decide +kernel
theorem w_tables : (allAtoms (Jvm.Cond.code x code maxLocals ret :: tables_1)).before args0 about1 = true := by
  rw [allAtoms_all]
  show words1.all (fun c => c.before args0 about1) = true
  refine all_split ?_ w_codes
  rw [← List.take_append_drop 24 words1, List.all_append, w_t1, ← List.take_append_drop 24 (words1.drop 24), List.all_append, w_t2, ← List.take_append_drop 24 ((words1.drop 24).drop 24), List.all_append, w_t3, ← List.take_append_drop 24 (((words1.drop 24).drop 24).drop 24), List.all_append, w_t4, ← List.take_append_drop 24 ((((words1.drop 24).drop 24).drop 24).drop 24), List.all_append, w_t5, w_t6]
  rfl
set_option maxRecDepth 65536 in
theorem w_rest : rest_1_c.before args0 about1 = true := by decide +kernel
set_option maxRecDepth 65536 in
theorem w_case : (Jvm.Cond.and given_1 narrow_1).before args0 about1 = true := by decide +kernel
theorem w_applies : (headSpec (Jvm.Cond.code x code maxLocals ret :: tables_1) room_1).applies x e0.platform about1 = true :=
  (Spec.applies_iff w_frames).mpr ⟨w_running, w_runnable, w_alone, w_named, w_hears, w_ripe, w_room, w_tables⟩
theorem atStart : AtStart classFile x code maxLocals ret World_1 tables_1 room_1 Calls_1 rest_1 Pre_1 launch0 p0 e0 about1 theMethod args0 below0 :=
  ⟨lists_1, trivial, launch0.admits_env _ _ _, launch0.least_env, fairChoices_fair.cas, fairChoices_fair.clock, w_frames, w_args, w_heap, w_applies, trivial, w_rest, w_case⟩
end start1
theorem witness_1 : WitnessClaimed_1 := ⟨start1.p0, start1.e0, start1.about1, start1.theMethod, start1.args0, start1.below0, start1.atStart⟩
end Jvm.Pilot.@@N@@
